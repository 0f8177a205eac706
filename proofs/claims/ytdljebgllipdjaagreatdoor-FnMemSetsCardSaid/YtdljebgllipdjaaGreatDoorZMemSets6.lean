/- What the claim needs of the texts on it, laid together. No condition. -/
import Derived.Test.YtdljebgllipdjaaGreatDoorZMemSets5
import Derived.ChangeArms
import Derived.LaidMore
import Derived.OpenShut
import Derived.Stop.LaidErr
set_option linter.unusedVariables false
set_option linter.unusedSimpArgs false
set_option linter.unusedSectionVars false
set_option maxRecDepth 100000
section
namespace Go.Proofs.YtdljebgllipdjaaGreatDoor.X
open Go Go.X Go.Proofs Go.RowKit Go.X.PM Go.Lib
structure Bes(x:FX)(n:SM.Node)(h:SM.Hnd)(md:Value):Prop where
 bytes:x.bytes=n.data
 cl:x.cl=h.cl
 ro:x.ro=h.ro
 dir:x.dir=n.dir
 nm:x.nm=n.name
 mode:x.mode=n.mode
 mt:x.mt=n.time
 rdc:x.rdc=h.listed
 md:x.md=md
 pos:PM.Pos h x.pos
theorem iteS{α:Type}{p:Prop}[Decidable p]{Q:α->Prop}{a b:α}(ha:Q a)(hb:Q b):Q (if p then a else b):=by
 by_cases c:p
 ·rw[if_pos c];exact ha
 ·rw[if_neg c];exact hb
theorem zts(x:FX)(q:SM.Stp):(onX x q).1.rdc=x.rdc/\(onX x q).1.md=x.md/\(onX x q).1.nm=x.nm/\(onX x q).1.dir=x.dir/\(onX x q).1.mode=x.mode:=by
 unfold onX
 repeat' apply iteS (Q:=λr:FX×SM.Ans=>r.1.rdc=x.rdc/\r.1.md=x.md/\r.1.nm=x.nm/\r.1.dir=x.dir/\r.1.mode=x.mode)
 ·unfold rdR;split<;>exact⟨rfl,rfl,rfl,rfl,rfl⟩
 ·exact⟨rfl,rfl,rfl,rfl,rfl⟩
 ·unfold wrR;repeat' split
  all_goals exact⟨rfl,rfl,rfl,rfl,rfl⟩
 ·unfold wrR;repeat' split
  all_goals exact⟨rfl,rfl,rfl,rfl,rfl⟩
 ·unfold skR;split<;>exact⟨rfl,rfl,rfl,rfl,rfl⟩
 ·unfold trR;repeat' split
  all_goals exact⟨rfl,rfl,rfl,rfl,rfl⟩
 ·unfold clR;split<;>exact⟨rfl,rfl,rfl,rfl,rfl⟩
 all_goals exact⟨rfl,rfl,rfl,rfl,rfl⟩
theorem zqJ{x:FX}(h:x.cl=true)(q:SM.Stp):(onX x q).1.cl=true/\((onX x q).1.pos=x.pos\/(q.op=15/\(onX x q).1.pos=q.off)):=by
 unfold onX;by_cases e:q.op=12
 ·rw[if_pos e];unfold rdR;rw[if_pos h];exact⟨h,.inl rfl⟩
 rw[if_neg e];by_cases e:q.op=13
 ·rw[if_pos e];exact⟨h,.inl rfl⟩
 rw[if_neg e];by_cases e:q.op=14
 ·rw[if_pos e];unfold wrR;rw[if_pos h];exact⟨h,.inl rfl⟩
 rw[if_neg e];by_cases e:q.op=15
 ·rw[if_pos e];unfold wrR;rw[if_pos (show({x with pos:=q.off}:FX).cl=true from h)];exact⟨h,.inr ⟨e,rfl⟩⟩
 rw[if_neg e];by_cases e:q.op=16
 ·rw[if_pos e];unfold skR;rw[if_pos h];exact⟨h,.inl rfl⟩
 rw[if_neg e];by_cases e:q.op=17
 ·rw[if_pos e];unfold trR;rw[if_pos h];exact⟨h,.inl rfl⟩
 rw[if_neg e];by_cases e:q.op=18
 ·rw[if_pos e];unfold clR;split<;>exact⟨rfl,.inl rfl⟩
 rw[if_neg e]
 repeat' apply iteS (Q:=λr:FX×SM.Ans=>r.1.cl=true/\(r.1.pos=x.pos\/(q.op=15/\r.1.pos=q.off)))
 all_goals exact⟨h,.inl rfl⟩
theorem ztw{x:FX}(h:x.cl=false)(q:SM.Stp):(onX x q).1.cl=true->q.op=18/\(onX x q).1.pos=x.pos:=by
 have hc:¬x.cl=true:=by rw[h];exact Bool.false_ne_true
 unfold onX;by_cases e:q.op=12
 ·rw[if_pos e];unfold rdR;rw[if_neg hc];exactλc=>absurd c hc
 rw[if_neg e];by_cases e:q.op=13
 ·rw[if_pos e];exactλc=>absurd c hc
 rw[if_neg e];by_cases e:q.op=14
 ·rw[if_pos e];unfold wrR;rw[if_neg hc];split<;>exactλc=>absurd c hc
 rw[if_neg e];by_cases e:q.op=15
 ·rw[if_pos e];unfold wrR;rw[if_neg (show¬({x with pos:=q.off}:FX).cl=true from hc)];split<;>exactλc=>absurd c hc
 rw[if_neg e];by_cases e:q.op=16
 ·rw[if_pos e];unfold skR;rw[if_neg hc];exactλc=>absurd c hc
 rw[if_neg e];by_cases e:q.op=17
 ·rw[if_pos e];unfold trR;rw[if_neg hc];repeat' split
  all_goals exactλc=>absurd c hc
 rw[if_neg e];by_cases e:q.op=18
 ·rw[if_pos e];unfold clR;split<;>exactλ_=>⟨e,rfl⟩
 rw[if_neg e]
 repeat' apply iteS (Q:=λr:FX×SM.Ans=>r.1.cl=true->q.op=18/\r.1.pos=x.pos)
 all_goals exactλc=>absurd c hc
theorem ztn{x:FX}{n:SM.Node}{h:SM.Hnd}{md:Value}{q:SM.Stp}{m:SM.Mem}(b:Bes x n h md)(hm:m.node h.node=n)(hop:12<=q.op/\q.op<=23)(hdl:q.data.length<=4096)(hsp:m.speaksFile h q=true)(hdir:n.dir=true->q.op≠19/\q.op≠20)
  (h1:n.data.length<=8192) (h2:n.name.length<=1000000) (h3:0<=n.mode/\n.mode<=4294967295) (h4:-8796093022208<=h.pos/\h.pos<=8796093022208):
  OkX x q/\Bes (onX x q).1 (zbh n h q).1 (zbh n h q).2.1 md/\(onX x q).2=(zbh n h q).2.2:=by
 obtain⟨b1,b2,b3,b4,b5,b6,b7,b8,b9,b10⟩:=b;have px:-8796093022208<=x.pos/\x.pos<=8796093022208:=by
  cases hc:h.cl with
  |false=>rw[b10.1 hc];exact h4
  |true=>exact b10.2 hc
 obtain⟨k1,k2,k3,k4,k5⟩:=zts x q;obtain⟨f1,f2⟩:=zji n h q;have f3:=(zjl n h q).2;cases hd:n.dir with
 |false=>
  have R:Rel 4398046511104 x n h:=⟨b1,b2,b3,b4.trans hd,hd,b5,b6,b7,h1,h2,h3,b10.1,by omega,by omega,by omega⟩;have SP:=zt9 hm hd hop hdl hsp;obtain⟨S1,S2⟩:=R.step SP;refine⟨R.okX SP (by omega),⟨S1.bytes,S1.cl,S1.ro,by rw[k4,f3,b4],S1.nm,S1.mode,S1.mt,by rw[k1,f1,b8],k2.trans b9,S1.pos,λhc=>?_⟩,S2⟩;have xc:(onX x q).1.cl=true:=by rw[S1.cl];exact hc
  cases hx:x.cl with
  |true=>
   rcases(zqJ hx q).2 with e|⟨e1,e2⟩
   ·rw[e];exact px
   ·rw[e2];have:=SP.wa e1;omega
  |false=>rw[(ztw hx q xc).2];exact px
 |true=>
  have ho:=hdir hd;have hops:q.op=18\/q.op=21\/q.op=22\/q.op=23:=by
   unfold SM.Mem.speaksFile at hsp;rw[hm]at hsp;simp only[hd,Bool.true_or,if_true]at hsp;by_cases c:q.op=18\/q.op=21\/q.op=22\/q.op=23
   ·exact c
   ·rw[if_neg (by omega),if_neg c]at hsp;cases hsp
  refine⟨⟨hop,λe=>by omega,by rw[b1];omega,by rw[b5];omega,by rw[b6];exact h3,by omega,λe=>by omega,by omega,λe=>by omega,λe=>by omega,λe=>by omega,λe=>by omega,λe=>by omega⟩,?_⟩;have hs:znJ x=zqI n:=by unfold znJ zqI;rw[b1,b4,b5,b6,b7,hd]
  rcases hops with e|e|e|e
  ·rw[zt8 x e,znP e];refine⟨?_,rfl⟩;unfold clR;rw[b3];by_cases hr:h.ro=true
   ·rw[if_pos hr,if_pos hr];exact⟨b1,rfl,rfl,b4,b5,b6,b7,b8,b9,(λh=>by cases h),λ_=>px⟩
   ·rw[if_neg hr,if_neg hr];exact⟨b1,rfl,rfl,b4,b5,b6,rfl,b8,b9,(λh=>by cases h),λ_=>px⟩
  ·rw[zuf x e,znS e,hs];exact⟨⟨b1,b2,b3,b4,b5,b6,b7,b8,b9,b10⟩,rfl⟩
  ·rw[zt6 x e,znR e,b5];exact⟨⟨b1,b2,b3,b4,b5,b6,b7,b8,b9,b10⟩,rfl⟩
  ·rw[zua x e,znE e];exact⟨⟨b1,b2,b3,b4,b5,b6,b7,b8,b9,b10⟩,rfl⟩
section
variable{w w' w0:World}{F0:Fp}{K:Value->World->Prop}{B p mb:Nat}{s:PM.St}{rep:Nat->Rep}{se:Nat->Nat×Nat}
 {m:SM.Mem} {ps:List Nat} {hp:Int->Nat} {E:PM.Ex} {X:Option Str}
theorem PF.data(h:PF w B p s mb rep){y:Nat}{kk:Option (Str->Option Nat)}(hy:s.nd (pt' ps y)=some ⟨m.node y,kk⟩)(h1:0<=(m.node y).mode/\(m.node y).mode<=4294967295)(h2:(m.node y).name.length<=140737488355328):DataAt w (pt' ps y) (m.node y).name (m.info y):=by have N:=h.node _ _ hy;obtain⟨u,g,hb⟩:=N.bd;obtain⟨a,c,ev⟩:=zan N.own;refine⟨a,(m.node y).data.length,c,mdV kk (rep (pt' ps y)).kb,(m.node y).dir,(m.node y).mode,(m.node y).time,u,g,?_,h1.1,h1.2,h2,rfl⟩;rw[hb];simp only[qC,ev]
theorem zok(wf:SM.Wf m)(l:Str):(m.children l).Pairwise (·<·):=wf.srt.filter _
theorem ztu(h:PF w B p s mb rep)(r:PM.Rel s m ps hp [] none){x:Nat}(hf:m.find (m.node x).name=some x)(hd:(m.node x).dir=true)(hN:m.names.length<=900000)(hmd:∀y,y<m.nodes.length->0<=(m.node y).mode/\(m.node y).mode<=4294967295)(hnl:∀y,y<m.nodes.length->(m.node y).name.length<=1000000):
  ∃kk,s.nd (pt' ps x)=some ⟨m.node x,some kk⟩/\DirAt w (rep (pt' ps x)).kb kk (m.children (m.node x).name) (λq=>m.info ((m.find q).getD 0)):=by
 obtain⟨k,k1,k2⟩:=r.nd x (r.lt hf);rcases k2 with⟨k2,_⟩|⟨_,kk,rfl,k3⟩
 ·rw[hd]at k2;cases k2
 have k3:=k3 hf;have N:=h.node _ _ k1;obtain⟨_,M,c,a1,a2,a3⟩:=N.kid kk rfl;refine⟨kk,k1,⟨M,c,a1,a2,a3⟩,λq e he=>?_,zok r.mi.wf _,λq=>?_,Nat.le_trans (List.length_filter_le _ _) hN⟩
 ·rw[k3 q (λh=>by cases h)]at he;by_cases c:q≠[47]/\SM.parent q=(m.node x).name
  ·rw[if_pos c]at he;obtain⟨y,hy,rfl⟩:=Option.map_eq_some_iff.1 he;obtain⟨ky,ky1,_⟩:=r.nd y (r.lt hy);have:=h.data ky1 (hmd y (r.lt hy)) (by have:=hnl y (r.lt hy);omega);rw[r.mi.nm q y hy]at this;rw[hy];exact this
  ·rw[if_neg c]at he;cases he
 ·rw[SM.zi6 r.mi.wf,k3 q (λh=>by cases h)];constructor
  ·rintro⟨⟨y,hy⟩,h1,h2⟩;rw[if_pos ⟨h1,h2⟩,hy];rfl
  ·intro hq;by_cases c:q≠[47]/\SM.parent q=(m.node x).name
   ·rw[if_pos c,Option.isSome_map]at hq;obtain⟨y,hy⟩:=Option.isSome_iff_exists.1 hq;exact⟨⟨y,hy⟩,c.1,c.2⟩
   ·rw[if_neg c]at hq;cases hq
theorem zrE(q:Str)(x:Nat)(h:(m.node x).name=q):(m.info x).name=SM.base q:=by rw[<-h];rfl
theorem hstep{k:Int}{hd:SM.Hnd}{q:SM.Stp}{x:Value}(h:PT w0 F0 w B p s mb rep se)(r:PM.Rel s m ps hp [] none)(hg:SM.hget m.hs k=some hd)(hx:BS w x q.data)(hop:12<=q.op/\q.op<=23)(hsp:m.speaksFile hd q=true)(hdl:q.data.length<=4096)
  (hN:m.names.length<=900000) (hmd:∀y,y<m.nodes.length->0<=(m.node y).mode/\(m.node y).mode<=4294967295) (hnl:∀y,y<m.nodes.length->(m.node y).name.length<=1000000) (hdt:(m.node hd.node).data.length<=8192) (hps:-8796093022208<=hd.pos/\hd.pos<=8796093022208) (hls:0<=hd.listed)
  (hk:∀w' c s' rep',PT w0 F0 w' B p s' mb rep' se->PM.Rel s' (m.fileS k hd q).1 ps hp [] none->AnsN w' w.heap.size (Own p mb s' rep') (m.fileS k hd q).2 c->K (AG c) w'):Cl P Fn.dw #[pt (hp k) 0,AG (zaC q x)] w K:=by
 obtain⟨hl,pos,hpos,hsf⟩:=r.hs.at_ k hd hg;obtain⟨kk,hnd,_⟩:=r.nd hd.node hl;obtain⟨u,g,H⟩:=h.pf.file hsf hnd;have bes:Bes (fxOf ⟨m.node hd.node,kk⟩ (rep (pt' ps hd.node)) ⟨pt' ps hd.node,pos,hd.listed,hd.cl,hd.ro⟩ u g) (m.node hd.node) hd (mdV kk (rep (pt' ps hd.node)).kb):=⟨rfl,rfl,rfl,rfl,rfl,rfl,rfl,rfl,rfl,hpos⟩;obtain⟨X0,hX0⟩:∃X0,X0=fxOf ⟨m.node hd.node,kk⟩ (rep (pt' ps hd.node)) ⟨pt' ps hd.node,pos,hd.listed,hd.cl,hd.ro⟩ u g:=⟨_,rfl⟩;rw[<-hX0]at H bes
 --what remains to be told,once a step has been made
 have fin:∀(X':FX)(n':SM.Node)(h':SM.Hnd)(a:SM.Ans)(w':World)(v':Value)(c:List Value),FH w' B (hp k) (pt' ps hd.node) v' X'->Kp w w' (Of (hp k) (pt' ps hd.node) (rep (pt' ps hd.node)).v)->zmM w (rep (pt' ps hd.node)).v v'->AnsN w' w.heap.size (Of (hp k) (pt' ps hd.node) v') a c->
   Bes X' n' h' (mdV kk (rep (pt' ps hd.node)).kb)->n'.name=(m.node hd.node).name->n'.dir=(m.node hd.node).dir->h'.node=hd.node->m.fileS k hd q=((m.setNode hd.node n').setH k h',a)->K (AG c) w':=by
  intro X' n' h' a w' v' c F K' O A b e1 e2 e3 ef;have P1:=h.fileDone hsf hnd F K' O b.md;have en:(⟨X'.dir,X'.mode,X'.bytes,X'.mt,X'.nm⟩:SM.Node)=n':=by rw[b.dir,b.mode,b.bytes,b.mt,b.nm]
  rw[en]at P1;have R1:=r.setNode (n:=n') hl hnd e1 e2;obtain⟨_,s2,_,s4⟩:=SM.za5 m hd.node n';have R2:=R1.setH (i:=k) (h0:=hd) (h:=h') (pos:=X'.pos) (by rw[s4];exact hg) e3 b.pos;refine hk w' c _ _ P1 ?_ ?_
  ·rw[ef];rw[e3]at R2;rw[b.rdc,b.cl,b.ro];exact R2
  ·rw[ef];obtain⟨x1,y1,z1,a1,a2,a3,a4,a5⟩:=A;refine⟨x1,y1,z1,a1,a2,a3,a4,λbb hb=>?_⟩;obtain⟨c1,c2,c3⟩:=a5 bb hb;refine⟨c1,c2,λho=>?_⟩;have hw:=h.pf.lt;rcases ho with ho|ho|⟨e,ne,he,ho⟩|⟨hh,ho⟩
   ·have:=(hw bb (.inl ho)).2;omega
   ·have:=(hw bb (.inr (.inl ho))).2;omega
   ·simp only[St.setNd,St.setH]at he;simp only at ho;by_cases ce:e=pt' ps hd.node
    ·rw[if_pos ce]at ho;rcases ho with ho|ho|⟨_,ho⟩
     ·exact c3 (.inr (.inl (by rw[ho,ce])))
     ·exact c3 (.inr (.inr ho))
     ·rename_i hks;rw[if_pos ce]at he;injection he with he;rw[<-he]at hks;have:=(hw bb (.inr (.inr (.inl ⟨_,_,hnd,.inr (.inr ⟨hks,ho⟩)⟩)))).2;omega
    ·rw[if_neg ce]at he ho;have:=(hw bb (.inr (.inr (.inl ⟨e,ne,he,ho⟩)))).2;omega
   ·simp only[St.setH]at ho;by_cases ce:bb=hp k
    ·exact c3 (.inl ce)
    ·rw[if_neg ce]at ho;have:=(hw bb (.inr (.inr (.inr ⟨hh,ho⟩)))).2;omega
 by_cases hlist:(m.node hd.node).dir=true/\(q.op=19\/q.op=20)
 ·obtain⟨hdir,ho⟩:=hlist;have hsp2:m.find (m.node hd.node).name=some hd.node/\hd.listed<=(m.children (m.node hd.node).name).length:=by unfold SM.Mem.speaksFile at hsp;simp only at hsp;rw[if_pos ho,hdir]at hsp;simpa using hsp
  obtain⟨kk',hnd',D⟩:=ztu h.pf r hsp2.1 hdir hN hmd hnl;rw[hnd]at hnd';injection hnd' with hnd';have ekk:kk=some kk':=congrArg PM.Nd.kids hnd';obtain⟨c0,hc0⟩:∃c0:Nat,hd.listed=c0:=⟨hd.listed.toNat,by omega⟩;have hc0l:c0<=(m.children (m.node hd.node).name).length:=by have:=hsp2.2;omega
  refine on_list (L:=m.children (m.node hd.node).name) (inf:=λq=>m.info ((m.find q).getD 0)) (k:=kk') (c0:=c0) H h.sn (by rw[bes.dir];exact hdir) (by rw[bes.md,ekk];rfl) D (by rw[bes.rdc];exact hc0) hc0l (λq hq=>?_) ho hx λw' v' c F K' O A=>?_
  ·obtain⟨⟨y,hy⟩,_⟩:=(SM.zi6 r.mi.wf _ _).1 hq;rw[hy];exact zrE q y (r.mi.nm q y hy)
  ·obtain⟨b1,b2,b3,b4,b5,b6,b7,b8,b9,b10⟩:=bes;refine fin _ (m.node hd.node) {hd with listed:=hd.listed+(lsL (m.children (m.node hd.node).name) c0 q.n).length} _ w' v' c F K' O A ⟨b1,b2,b3,b4,b5,b6,b7,by rw[b8],b9,b10⟩ rfl rfl rfl ?_;rw[zi0 hl];unfold SM.Mem.fileS;rw[if_neg (by omega),if_neg (by omega),if_neg (by omega),if_neg (by omega),if_pos ho];unfold SM.Mem.listS;simp only
   rw[if_neg (by rw[hdir];simp)];have e1:(min hd.listed ((m.children (m.node hd.node).name).length:Int)).toNat=c0:=by omega
   rw[e1];unfold lsA lsE lsL;by_cases c20:q.op=20
   ·simp only[if_pos c20]
   ·simp only[if_neg c20]
 ·obtain⟨ok,b',ea⟩:=ztn bes rfl hop hdl hsp (λe=>⟨λo=>hlist ⟨e,.inl o⟩,λo=>hlist ⟨e,.inr o⟩⟩) hdt (hnl _ hl) (hmd _ hl) hps;obtain⟨f1,f2⟩:=zjl (m.node hd.node) hd q;refine on_any H h.sn ok hx λw' v' c F K' O A=>?_;rw[ea]at A;refine fin _ _ _ _ w' v' c F K' O A b' (zji _ _ _).2 f2 f1 ?_;exact zno q hg hl λo=>by
   cases e:(m.node hd.node).dir with
   |false=>rfl
   |true=>exact absurd ⟨e,o⟩ hlist
end
end Go.Proofs.YtdljebgllipdjaaGreatDoor.X
end
section
namespace Go.Proofs.YtdljebgllipdjaaGreatDoor.X
open Go Go.X Go.Proofs Go.RowKit
def StepsAt(w:World)(v:Value)(qs:List SM.Stp)(vs:List Value):Prop:=vs.length=qs.length/\(∀i(h1:i<qs.length)(h2:i<vs.length),BS w vs[i] qs[i].data)/\((qs=[]/\∃a cap,v=.slice a 0 cap)\/∃b o cap,v=sl b o qs.length cap/\b<w.heap.size/\∀i(h1:i<qs.length)(h2:i<vs.length),zaY (bk w b) (o+i*10) 10=some (zaC qs[i] vs[i]))
theorem StepsAt.old{w w':World}{v:Value}{qs:List SM.Stp}{vs:List Value}(h:StepsAt w v qs vs)(hb:Below w.heap.size w w'):StepsAt w' v qs vs:=by
 refine⟨h.1,λi h1 h2=>zcs (h.2.1 i h1 h2) hb (Nat.le_refl _),?_⟩;rcases h.2.2 with h|⟨b,o,cap,h1,h2,h3⟩
 ·exact .inl h
 ·exact .inr ⟨b,o,cap,h1,Nat.lt_of_lt_of_le h2 hb.size,λi g1 g2=>by rw[zax hb h2];exact h3 i g1 g2⟩
theorem StepsAt.slice{w:World}{v:Value}{qs:List SM.Stp}{vs:List Value}(h:StepsAt w v qs vs):∃a cap,v=.slice a qs.length cap:=by
 rcases h.2.2 with⟨h,a,cap,e⟩|⟨b,o,cap,e,_⟩
 ·exact⟨a,cap,by rw[e,h];rfl⟩
 ·exact⟨_,_,e⟩
theorem StepsAt.idx{w:World}{v:Value}{qs:List SM.Stp}{vs:List Value}(h:StepsAt w v qs vs){i:Nat}(hi:i<qs.length)(hv:i<vs.length):
  ∃b o,zaY (bk w b) o 10=some (zaC qs[i] vs[i])/\b<w.heap.size/\∀L:Value->Prop,pu P (zaO T.aw v (.int .i64 i)) L=L (pt b o):=by
 rcases h.2.2 with⟨h,_⟩|⟨b,o,cap,rfl,hb,hr⟩
 ·rw[h]at hi;exact absurd hi (by simp)
 ·refine⟨b,o+i*10,hr i hi hv,hb,λL=>?_⟩;rw[zgg (size:=10) L U.aj (by kernel_rfl) (by omega) (by omega),Int.toNat_natCast]
section
variable{σ:Type}
def okX(stp:σ->SM.Stp->σ×SM.Ans)(ok:σ->SM.Stp->Prop):σ->List SM.Stp->Prop
 |_,[]=>True
 |s,q::qs=>ok s q/\okX stp ok (stp s q).1 qs
def AnsAt(w:World)(lo:Nat)(N:Nat->Prop)(az:List SM.Ans)(cs:List (List Value)):Prop:=cs.length=az.length/\∀i(h1:i<cs.length)(h2:i<az.length),AnsN w lo N az[i] cs[i]
theorem AnsAt.kp{w w':World}{lo:Nat}{N S:Nat->Prop}{az:List SM.Ans}{cs:List (List Value)}(h:AnsAt w lo N az cs)(k:Kp w w' S)(hS:∀b,lo<=b->b<w.heap.size->¬N b->¬S b):AnsAt w' lo N az cs:=⟨h.1,λi h1 h2=>(h.2 i h1 h2).kp k hS⟩
theorem AnsAt.to{w:World}{lo:Nat}{N M:Nat->Prop}{az:List SM.Ans}{cs:List (List Value)}(h:AnsAt w lo N az cs)(hM:∀b,lo<=b->b<w.heap.size->¬N b->¬M b):AnsAt w lo M az cs:=⟨h.1,λi h1 h2=>(h.2 i h1 h2).to hM⟩
theorem AnsAt.snoc{w:World}{lo:Nat}{N:Nat->Prop}{az:List SM.Ans}{cs:List (List Value)}(h:AnsAt w lo N az cs){a:SM.Ans}{c:List Value}(ha:AnsN w lo N a c):AnsAt w lo N (az++[a]) (cs++[c]):=by
 refine⟨by simp[h.1],λi h1 h2=>?_⟩;by_cases hi:i<cs.length
 ·rw[List.getElem_append_left hi,List.getElem_append_left (by rw[<-h.1];exact hi)];exact h.2 i hi _
 ·have e1:i=cs.length:=by simp at h1;omega
  subst e1;have e2:(cs++[c])[cs.length]=c:=by simp
  have e3:(az++[a])[cs.length]'h2=a:=by simp[h.1]
  rw[e2,e3];exact ha
theorem zk8{w:World}{lo:Nat}{N:Nat->Prop}{a:SM.Ans}{c:List Value}(h:AnsN w lo N a c):c.length=6/\∀u∈c,u.oneCell'=true:=by obtain⟨x,y,z,rfl,hx,hy,hz,_⟩:=h;obtain⟨p1,c1,rfl⟩:=zay hx;obtain⟨p2,c2,rfl⟩:=zaX hy;obtain⟨p3,c3,rfl⟩:=zaX hz;refine⟨rfl,λu hu=>?_⟩;simp only[zbq,List.mem_cons,List.not_mem_nil,or_false]at hu;rcases hu with rfl|rfl|rfl|rfl|rfl|rfl<;>rfl
end
end Go.Proofs.YtdljebgllipdjaaGreatDoor.X
end
section
namespace Go.Proofs.YtdljebgllipdjaaGreatDoor.X
open Go Go.X Go.Proofs Go.RowKit Go.X.PM Go.Lib
section
variable{w w' w0:World}{F0 F:Fp}{K:Value->World->Prop}{B p mb hb:Nat}{s:PM.St}{rep:Nat->Rep}{se:Nat->Nat×Nat}
 {Tz:Nat->Prop} {m m':SM.Mem} {ps:List Nat} {hp hp':Int->Nat} {E:PM.Ex} {X:Option Str}
theorem FsT.start(h:FsT w0 F0 w B p m hp se):∃F,FsT w F w B p m hp se/\Tr w0 w F0 F/\∀b,F.own b->B<=b/\b<w.heap.size:=by
 rcases h with⟨s,mb,rep,ps,h,r⟩|h
 ·exact⟨_,.inl ⟨s,mb,rep,ps,h.rebase,r⟩,h.tr,λb hb=>h.pf.lt b hb⟩
 ·refine⟨⟨(·=p),(·=p)⟩,.inr ⟨h.hp,h.bp,h.m0,Tr.refl _ _,h.sn⟩,h.tr,λb hb=>?_⟩;have e:b=p:=hb;rw[e];exact⟨h.hp,zaj h.bp⟩
theorem FsT.sn(h:FsT w0 F0 w B p m hp se):Sn w B se:=by
 rcases h with⟨s,mb,rep,ps,h,r⟩|h
 ·exact h.sn
 ·exact h.sn
theorem FsT.tr(h:FsT w0 F0 w B p m hp se):Kp w0 w F0.own:=by
 rcases h with⟨s,mb,rep,ps,h,r⟩|h
 ·exact h.tr.kp
 ·exact h.tr.kp
theorem FsT.again{S:Nat->Prop}(h:FsT w F w B p m hp se)(k:Kp w w' S)(hS:∀b,F.own b->¬S b)(hB:∀b,S b->B<=b):∃F',FsT w' F' w' B p m hp se/\∀b,F'.own b->F.own b/\B<=b/\b<w.heap.size:=by
 have kb:Below B w w':=k.below (λb hb hs=>absurd (hB b hs) (by omega)) (by
  rcases h with⟨s,mb,rep,ps,h,r⟩|h
  ·exact h.pf.le
  ·have:=h.hp;have:=zaj h.bp;omega)
 rcases h with⟨s,mb,rep,ps,h,r⟩|h
 ·have own:∀b,Own p mb s rep b->F.own b:=λb hb=>(h.tr.st b (h.pf.lt b hb).2).1 hb;have pf:=h.pf.kp k λb hb=>hS b (own b hb);exact⟨_,.inl ⟨s,mb,rep,ps,PT.start pf (h.sn.below kb),r⟩,λb hb=>⟨own b hb,h.pf.lt b hb⟩⟩
 ·have own:F.own p:=(h.tr.st p (zaj h.bp)).1 rfl;refine⟨⟨(·=p),(·=p)⟩,.inr ⟨h.hp,(k.block p (zaj h.bp) (hS p own)).trans h.bp,h.m0,Tr.refl _ _,h.sn.below kb⟩,λb hb=>?_⟩;have e:b=p:=hb;rw[e];exact⟨own,h.hp,zaj h.bp⟩
structure MJ(w0 w:World)(p hb:Nat)(m:SM.Mem)(hp:Int->Nat)(se:Nat->Nat×Nat)(F:Fp):Prop where
 fs:FsT w F w w0.heap.size p m hp se
 own:∀b,F.own b->w0.heap.size<=b/\b<w.heap.size
 hbn:¬F.own hb/\w0.heap.size<=hb
 map:∃M c,bk w hb=some (MO emI M c)/\MWF M c/\∀j,mget M j=(SM.hget m.hs j).map λ_=>pt (hp j) 0
 bel:Below w0.heap.size w0 w
structure MO9(w0 w:World)(hb:Nat)(Tz:Nat->Prop)(F:Fp)(av:Value)(n:Nat)(az:List SM.Ans)(cs:List (List Value)):Prop where
 o:w.ownsRow w0.heap.size T.ab 6 av n (List.flatten cs)
 nF:∀b,av.ownBlock=some b->¬F.own b
 len:az.length=n
 ans:AnsAt w w0.heap.size (λb=>F.own b\/b=hb\/av.ownBlock=some b\/Tz b) az cs
theorem MO9.nhb{av:Value}{n:Nat}{az:List SM.Ans}{cs:List (List Value)}(h:MO9 w0 w hb Tz F av n az cs){M:ML Int}{c:Nat}(hm:bk w hb=some (MO emI M c)):av.ownBlock≠some hb:=λe=>by obtain⟨cur,hc⟩:=zfS h.o e;rw[hm]at hc;cases hc
theorem MJ.old(h:MJ w0 w p hb m hp se F)(k:Below w.heap.size w w'):∃F',MJ w0 w' p hb m hp se F'/\∀b,F'.own b->F.own b:=by obtain⟨F',f1,f2⟩:=h.fs.again (S:=λ_=>False) (Kp.of_below k _) (λb _ h=>h) λb h=>h.elim;obtain⟨M,c,m1,m2,m3⟩:=h.map;refine⟨F',⟨f1,λb hb=>?_,⟨λe=>h.hbn.1 (f2 hb e).1,h.hbn.2⟩,⟨M,c,(zax k (zaj m1)).trans m1,m2,m3⟩,h.bel.trans (k.mono h.bel.size)⟩,λb hb=>(f2 b hb).1⟩;have:=h.own b (f2 b hb).1;exact⟨this.1,Nat.lt_of_lt_of_le this.2 k.size⟩
theorem MJ.after(h:MJ w0 w p hb m hp se F)(h':FsT w F w' w0.heap.size p m' hp' se)(hm:∀j,(SM.hget m'.hs j).map (λ_=>pt (hp' j) 0)=(SM.hget m.hs j).map λ_=>pt (hp j) 0):∃F',MJ w0 w' p hb m' hp' se F'/\Kp w w' F.own/\∀b,b<w.heap.size->F'.own b->F.own b:=by obtain⟨F',f1,f2,f3⟩:=h'.start;obtain⟨M,c,m1,m2,m3⟩:=h.map;have k:=f2.kp;refine⟨F',⟨f1,f3,⟨λe=>h.hbn.1 ((f2.st hb (zaj m1)).1 e),h.hbn.2⟩,⟨M,c,(k.block hb (zaj m1) h.hbn.1).trans m1,m2,λj=>by rw[m3,hm]⟩,h.bel.trans (k.below (λb hb e=>by have:=(h.own b e).1;omega) h.bel.size)⟩,k,λb hb=>(f2.st b hb).1⟩
theorem MO9.old{F':Fp}{av:Value}{n:Nat}{az:List SM.Ans}{cs:List (List Value)}(h:MO9 w0 w hb Tz F av n az cs)(k:Below w.heap.size w w')(hF:∀b,F'.own b->F.own b):MO9 w0 w' hb Tz F' av n az cs:=by
 refine⟨zbf h.o k (Nat.le_refl _),λb hb e=>h.nF b hb (hF b e),h.len,AnsAt.to (AnsAt.kp h.ans (Kp.of_below k λb=>w.heap.size<=b) λb _ h1 _ h2=>?_) λb _ _ hn=>?_⟩
 ·omega
 ·rintro(e|e)
  ·exact hn (.inl (hF b e))
  ·exact hn (.inr e)
theorem MO9.after{F':Fp}{av:Value}{n:Nat}{az:List SM.Ans}{cs:List (List Value)}(h:MO9 w0 w hb Tz F av n az cs)(k:Kp w w' F.own)(hF:∀b,b<w.heap.size->F'.own b->F.own b):MO9 w0 w' hb Tz F' av n az cs:=by
 have a1:AnsAt w w0.heap.size (λb=>(F.own b\/F'.own b)\/b=hb\/av.ownBlock=some b\/Tz b) az cs:=AnsAt.to h.ans λb _ hl hn=>by
  rintro((e|e)|e)
  ·exact hn (.inl e)
  ·exact hn (.inl (hF b hl e))
  ·exact hn (.inr e)
 have a2:AnsAt w' w0.heap.size (λb=>(F.own b\/F'.own b)\/b=hb\/av.ownBlock=some b\/Tz b) az cs:=AnsAt.kp a1 k λb _ _ hn e=>hn (.inl (.inl e));refine⟨zbQ h.o k h.nF,λb hb e=>h.nF b hb (hF b (zaW h.o b hb).2 e),h.len,AnsAt.to a2 λb _ _ hn=>?_⟩;rintro(e|e)
 ·exact hn (.inl (.inr e))
 ·exact hn (.inr e)
theorem mapPut(hbn:¬F.own hb/\w0.heap.size<=hb)(hmap:∃M c,bk w hb=some (MO emI M c)/\MWF M c/\∀j,mget M j=(SM.hget m.hs j).map λ_=>pt (hp j) 0)(hbel:Below w0.heap.size w0 w){av:Value}{n:Nat}{az:List SM.Ans}{cs:List (List Value)}(g:MO9 w0 w hb Tz F av n az cs)(i:Int)(f:Nat)(hf:FsT w F w w0.heap.size p m' hp' se)(hm:∀j,(SM.hget m'.hs j).map (λ_=>pt (hp' j) 0)=if j=i then some (pt f 0)else(SM.hget m.hs j).map λ_=>pt (hp j) 0){L:Value->World->Prop}
  (hk:∀w' F',MJ w0 w' p hb m' hp' se F'->MO9 w0 w' hb Tz F' av n az cs->Kp w w' (·=hb)->(∀b,F'.own b->F.own b)->L undef w'):st P (zee T.aQ (.map (some hb)) (.int .i64 i) (pt f 0)) w L:=by
 obtain⟨M,c,m1,m2,m3⟩:=hmap;rw[show(Value.int .i64 i)=emI i from rfl,zlv _ U.aA (zpD U.int) m1];have k:=Kp.setb w hb (MO emI (zic M i (pt f 0) c) (zjn M i c));obtain⟨F',f1,f2⟩:=hf.again (w':=setb w hb (MO emI (zic M i (pt f 0) c) (zjn M i c))) k (λb hb e=>hbn.1 (by rw[<-e];exact hb)) λb e=>by rw[e];exact hbn.2
 refine hk _ F' ⟨f1,λb hb=>⟨(f2 b hb).2.1,by rw[sZb];exact(f2 b hb).2.2⟩,⟨λe=>hbn.1 (f2 hb e).1,hbn.2⟩,⟨_,_,zap _ _ _ _ rfl (zaj m1),m2.put _ _,λj=>?_⟩,zag hbel hbn.2 _⟩ ⟨zbQ g.o k λb hb e=>g.nhb m1 (by rw[<-e];exact hb),λb hb e=>g.nF b hb (f2 b e).1,g.len,AnsAt.kp (AnsAt.to g.ans λb _ _ hn=>?_) k λb _ _ hn e=>hn (.inr (.inl e))⟩ k λb hb=>(f2 b hb).1
 ·rw[zjc,m3,hm]
 ·rintro(e|e)
  ·exact hn (.inl (f2 b e).1)
  ·exact hn (.inr e)
theorem MJ.afterPut(h:MJ w0 w p hb m hp se F){av:Value}{n:Nat}{az:List SM.Ans}{cs:List (List Value)}(g:MO9 w0 w hb Tz F av n az cs)(h':FsT w F w' w0.heap.size p m' hp' se)(i:Int)(f:Nat)(hm:∀j,(SM.hget m'.hs j).map (λ_=>pt (hp' j) 0)=if j=i then some (pt f 0)else(SM.hget m.hs j).map λ_=>pt (hp j) 0){L:Value->World->Prop}
  (hk:∀w2 F',MJ w0 w2 p hb m' hp' se F'->MO9 w0 w2 hb Tz F' av n az cs->(∀b,b<w.heap.size->¬F.own b->b≠hb->bk w2 b=bk w b/\¬F'.own b)->L undef w2):st P (zee T.aQ (.map (some hb)) (.int .i64 i) (pt f 0)) w' L:=by
 obtain⟨F',f1,f2,f3⟩:=h'.start;obtain⟨M,c,m1,m2,m3⟩:=h.map;have k:=f2.kp;have hF:∀b,b<w.heap.size->F'.own b->F.own b:=λb hb=>(f2.st b hb).1;refine mapPut (m:=m) (hp:=hp) (m':=m') (hp':=hp') ⟨λe=>h.hbn.1 (hF hb (zaj m1) e),h.hbn.2⟩ ⟨M,c,(k.block hb (zaj m1) h.hbn.1).trans m1,m2,m3⟩ (h.bel.trans (k.below (λb hb e=>by have:=(h.own b e).1;omega) h.bel.size)) (g.after k hF) i f f1 hm λw2 F2 J2 G2 k2 e2=>hk w2 F2 J2 G2 λb hb hn hne=>⟨?_,λe=>hn (hF b hb (e2 b e))⟩;have z:=k.size;rw[k2.block b (by omega) hne,k.block b hb hn]
theorem zug(h:MJ w0 w p hb m hp se F){av:Value}{n:Nat}{az:List SM.Ans}{cs:List (List Value)}(g:MO9 w0 w hb Tz F av n az cs)(hn:n<=1000000){a:SM.Ans}{c:List Value}(hA:AnsN w w0.heap.size (λb=>F.own b\/b=hb\/av.ownBlock=some b\/Tz b) a c){k3:List Value->World->Prop}
  (hk:∀w' av' cs' F',MJ w0 w' p hb m hp se F'->MO9 w0 w' hb Tz F' av' (n+1) (az++[a]) cs'->k3 [av'] w'):
  st P (zam T.aK 1 #[(0,AG c)]) w λt41 w67=>st P (zac .append #[T.aK,T.aK] T.aK #[false,false] #[av,t41]) w67 λt42 w68=>k3 [t42] w68:=by
 obtain⟨cl,c1⟩:=zk8 hA;rw[zbg (size:=6) (z:=AG ansZ) _ _ U.ar (by kernel_rfl) (by omega) (by omega) (l:=c) cl];obtain⟨w6,e6⟩:∃w6,w6=w.alloc (CB c T.ab):=⟨_,rfl⟩;have B56:Below w.heap.size w w6:=by rw[e6];repeat (first|exact Below.refl _ _|assumption|refine zag ?_ (by first|omega|(simp only[go_sem]<;>omega)) _|refine Below.alloc ?_ (by first|omega|(simp only[go_sem]<;>omega)) _|refine Below.drew ?_)
 have z6:w6.heap.size=w.heap.size+1:=by rw[e6];simp only[go_sem]
 have r6:bk w6 w.heap.size=some (CB c T.ab):=by rw[e6];exact zaf _ _ _ rfl
 rw[<-e6];clear e6;have z0:=h.bel.size;obtain⟨F6,h6,hF6⟩:=h.old B56;have g6:=g.old B56 hF6;obtain⟨M,cc,m1,_,_⟩:=h6.map;have hA6:AnsN w6 w0.heap.size (λb=>F.own b\/b=hb\/av.ownBlock=some b\/Tz b) a c:=hA.kp (Kp.of_below B56 λb=>w.heap.size<=b) λb _ h1 _ h2=>by omega
 refine zbK (size:=6) (bytes:=96) (z:=AG ansZ) (news:=c) U.ar (by kernel_rfl) rfl (by omega) g6.o (.inl ⟨_,_,_,rfl,by rw[r6];simp only[zaY];rw[if_pos (by simp)];simp⟩) cl c1 (by simp only[maxLen];omega) (by omega) (by omega) λav6 w7 o6 g7 l6=>?_;have K7:=Kp.of_grown g7;have hav6:∀k,av6.ownBlock=some k->av.ownBlock=some k\/w6.heap.size<=k:=λk hk=>by
  rcases l6 with h|h
  ·exact .inl (by rw[<-h];exact hk)
  ·rw[hk]at h;injection h with h;exact .inr (by omega)
 obtain⟨F7,f1,f2⟩:=h6.fs.again K7 (λb hb e=>g6.nF b e hb) λb e=>(zaW g6.o b e).1;obtain⟨M,c0,m1,m2,m3⟩:=h6.map;have nav:¬av.ownBlock=some hb:=g6.nhb m1;have z7:=K7.size;have M7:MJ w0 w7 p hb m hp se F7:=⟨f1,λb hb=>⟨(f2 b hb).2.1,by have:=(f2 b hb).2.2;omega⟩,⟨λe=>h6.hbn.1 (f2 hb e).1,h6.hbn.2⟩,⟨M,c0,(K7.block hb (zaj m1) nav).trans m1,m2,m3⟩,h6.bel.trans (K7.below (λk hk e=>by have:=(zaW g6.o k e).1;omega) h6.bel.size)⟩;have lhb:=zaj m1;have sub:∀b,b<w6.heap.size->¬(F.own b\/b=hb\/av.ownBlock=some b\/Tz b)->¬(F7.own b\/b=hb\/av6.ownBlock=some b\/Tz b):=λb hb hn e=>by
  rcases e with e|e|e|e
  ·exact hn (.inl (hF6 b (f2 b e).1))
  ·exact hn (.inr (.inl e))
  ·rcases hav6 b e with q|q
   ·exact hn (.inr (.inr (.inl q)))
   ·omega
  ·exact hn (.inr (.inr (.inr e)))
 have sub6:∀b,b<w6.heap.size->¬(F6.own b\/b=hb\/av.ownBlock=some b\/Tz b)->¬(F7.own b\/b=hb\/av6.ownBlock=some b\/Tz b):=λb hb hn e=>by
  rcases e with e|e|e|e
  ·exact hn (.inl (f2 b e).1)
  ·exact hn (.inr (.inl e))
  ·rcases hav6 b e with q|q
   ·exact hn (.inr (.inr (.inl q)))
   ·omega
  ·exact hn (.inr (.inr (.inr e)))
 obtain⟨N7,hN7⟩:∃N7:Nat->Prop,N7=λb=>F7.own b\/b=hb\/av6.ownBlock=some b\/Tz b:=⟨_,rfl⟩;have b1:AnsAt w6 w0.heap.size (λb=>av.ownBlock=some b\/N7 b) az cs:=AnsAt.to g6.ans λb _ hl hn e=>by
  rcases e with e|e
  ·exact hn (.inr (.inr (.inl e)))
  ·rw[hN7]at e;exact sub6 b hl hn e
 have b2:AnsN w6 w0.heap.size (λb=>av.ownBlock=some b\/N7 b) a c:=AnsN.to hA6 λb _ hl hn e=>by
  rcases e with e|e
  ·exact hn (.inr (.inr (.inl e)))
  ·rw[hN7]at e;exact sub b hl hn e
 have b3:AnsAt w7 w0.heap.size N7 (az++[a]) (cs++[c]):=AnsAt.snoc (AnsAt.to (AnsAt.kp b1 K7 λb _ _ hn e=>hn (.inl e)) λb _ _ hn e=>hn (.inr e)) (AnsN.to (AnsN.kp b2 K7 λb _ _ hn e=>hn (.inl e)) λb _ _ hn e=>hn (.inr e));rw[hN7]at b3;refine hk w7 av6 (cs++[c]) F7 M7 ⟨?_,λb hb e=>?_,by simp[g.len],b3⟩
 ·rw[List.flatten_append];simpa using o6
 ·have q:=f2 b e;rcases hav6 b hb with z|z
  ·exact g6.nF b z q.1
  ·omega
theorem MO9.tz{Tz':Nat->Prop}{av:Value}{n:Nat}{az:List SM.Ans}{cs:List (List Value)}(h:MO9 w0 w hb Tz F av n az cs)(hT:∀b,b<w.heap.size->Tz' b->Tz b):MO9 w0 w hb Tz' F av n az cs:=
 ⟨h.o,h.nF,h.len,AnsAt.to h.ans λb _ hl hn e=>by
  rcases e with e|e|e|e
  ·exact hn (.inl e)
  ·exact hn (.inr (.inl e))
  ·exact hn (.inr (.inr (.inl e)))
  ·exact hn (.inr (.inr (.inr (hT b hl e))))⟩
theorem zrO(h:MJ w0 w p hb m hp se F){av err fl inf:Value}{n Cz tb:Nat}{az:List SM.Ans}{cs:List (List Value)}(g:MO9 w0 w hb (·=tb) F av n az cs)(hn:n<=1000000){a:SM.Ans}{x1 x2 x3:Value}(ht:bk w tb=some (CB (zbq {a with e:=0} x1 x2 x3) T.ab))(htb:¬F.own tb/\w0.heap.size<=tb/\av.ownBlock≠some tb)
  (hx:BS w x1 a.data) (hy:RowS w x2 a.names.length (a.names.map S)) (hz:RowS w x3 a.infos.length (zf2 a.infos)) (ho:∀b,(x1.ownBlock=some b\/x2.ownBlock=some b\/x3.ownBlock=some b)->w0.heap.size<=b/\b<w.heap.size/\¬(F.own b\/b=hb\/av.ownBlock=some b\/b=tb))
  (he:ErrV w Cz se a.e err) (hC:w0.heap.size<=Cz) {k3:List Value->World->Prop} {t:List Value} {u:Env}
  (hk:∀w' av' cs' F',MJ w0 w' p hb m hp se F'->MO9 w0 w' hb (·=tb) F' av' (n+1) (az++[a]) cs'->k3 [av'] w'):
  zdJ [av,err,fl,inf] (pt tb 0) k3 t u w:=by
 unfold zdJ;rw[gs0,gs1,C.bz];refine zp7 h.fs.sn hC he ?_;obtain⟨p1,c1,rfl⟩:=zay hx;obtain⟨p2,c2,rfl⟩:=zaX hy;obtain⟨p3,c3,rfl⟩:=zaX hz;have lt:=zaj ht;obtain⟨M,cc,m1,_,_⟩:=h.map;have nhb:hb≠tb:=λe=>by rw[e,ht]at m1;cases m1
 obtain⟨c',ec'⟩:∃c',c'=zbq a (.slice p1 a.data.length c1) (.slice p2 a.names.length c2) (.slice p3 a.infos.length c3):=⟨_,rfl⟩;obtain⟨w1,e1⟩:∃w1,w1=setb w tb (CB c' T.ab):=⟨_,rfl⟩;have k1:Kp w w1 (·=tb):=by rw[e1];exact Kp.setb _ _ _
 have z1:w1.heap.size=w.heap.size:=by rw[e1,sZb]
 obtain⟨F1,f1,f2⟩:=h.fs.again k1 (λb hb e=>htb.1 (by rw[<-e];exact hb)) λb e=>by rw[e];exact htb.2.1
 have J1:MJ w0 w1 p hb m hp se F1:=by obtain⟨M,cc,m1,m2,m3⟩:=h.map;exact⟨f1,λb hb=>⟨(f2 b hb).2.1,by rw[z1];exact(f2 b hb).2.2⟩,⟨λe=>h.hbn.1 (f2 hb e).1,h.hbn.2⟩,⟨M,cc,(k1.block hb (zaj m1) nhb).trans m1,m2,m3⟩,h.bel.trans (k1.below (λb hb e=>by have:=htb.2.1;omega) h.bel.size)⟩
 have weak:∀b,¬(F.own b\/b=hb\/av.ownBlock=some b\/b=tb)->¬(F1.own b\/b=hb\/av.ownBlock=some b\/b=tb):=λb hn e=>by
  rcases e with e|e
  ·exact hn (.inl (f2 b e).1)
  ·exact hn (.inr e)
 have G1:MO9 w0 w1 hb (·=tb) F1 av n az cs:=⟨zbQ g.o k1 λb hb e=>htb.2.2 (by rw[<-e];exact hb),λb hb e=>g.nF b hb (f2 b e).1,g.len,AnsAt.to (AnsAt.kp g.ans k1 λb _ _ hn e=>hn (.inr (.inr (.inr e)))) λb _ _ hn=>weak b hn⟩;have A0:AnsN w w0.heap.size (λb=>F.own b\/b=hb\/av.ownBlock=some b\/b=tb) a c':=⟨_,_,_,ec',hx,hy,hz,ho⟩;have A1:AnsN w1 w0.heap.size (λb=>F1.own b\/b=hb\/av.ownBlock=some b\/b=tb) a c':=AnsN.to (AnsN.kp A0 k1 λb _ _ hn e=>hn (.inr (.inr (.inr e)))) λb _ _ hn=>weak b hn;have fin:=zug J1 G1 hn A1 hk;simp(disch:=first|omega|(simp(disch:=first|omega|fail)only[go_sem,ht]<;>omega)|fail)only[go_sem,ht];rw[e1,ec']at fin;exact fin
end
section
variable{w w' w0:World}{F0 F:Fp}{K:Value->World->Prop}{B p mb hb:Nat}{s:PM.St}{rep:Nat->Rep}{se:Nat->Nat×Nat}
 {Tz:Nat->Prop} {m m':SM.Mem} {ps:List Nat} {hp hp':Int->Nat} {E:PM.Ex} {X:Option Str}
theorem zoG{av err fl:Value}{k3:List Value->World->Prop}{tb:Nat}{s6:List Value}{u6:Env}{w:World}(he:err=.nilIface\/∃t y,err=.iface t y)(h:∀t u,zdJ [av,err,fl,.pointer none] (pt tb 0) k3 t u w):
  zbx [av,err,fl,.pointer none] (pt tb 0) k3 s6 u6 w:=by
 unfold zbx;refine zaa (λt w'=>w'=w) ?_ ?_
 ·rintro t e w1 rfl;exact h t e
 ·rcases he with rfl|⟨t,y,rfl⟩
  ·rw[gs1,zjG Tryz.underlying116];simp(disch:=first|omega|(simp(disch:=first|omega|fail)only[go_sem]<;>omega)|fail)only[go_sem];rw[zn3 U.aB];simp(disch:=first|omega|(simp(disch:=first|omega|fail)only[go_sem,Option.isSome_none]<;>omega)|fail)only[go_sem,Option.isSome_none]
  ·rw[gs1,zlu Tryz.underlying116];simp(disch:=first|omega|(simp(disch:=first|omega|fail)only[go_sem]<;>omega)|fail)only[go_sem]
theorem zoF{av err inf t16:Value}{k3:List Value->World->Prop}{tb:Nat}{s2:List Value}{u5:Env}{w:World}(he:err=.nilIface\/∃t y,err=.iface t y)(h:∀t u,zbx [av,err,.pointer none,inf] (pt tb 0) k3 t u w):
  za9 (pt tb 0) k3 t16 s2 [av,err,.pointer none,inf] u5 w:=by
 unfold za9;refine zaa (λt w'=>w'=w) ?_ ?_
 ·rintro t e w1 rfl;exact h t e
 ·rcases he with rfl|⟨t,y,rfl⟩
  ·rw[gs1,zjG Tryz.underlying116];simp(disch:=first|omega|(simp(disch:=first|omega|fail)only[go_sem]<;>omega)|fail)only[go_sem];rw[zn3 U.aC];simp(disch:=first|omega|(simp(disch:=first|omega|fail)only[go_sem,Option.isSome_none]<;>omega)|fail)only[go_sem,Option.isSome_none]
  ·rw[gs1,zlu Tryz.underlying116];simp(disch:=first|omega|(simp(disch:=first|omega|fail)only[go_sem]<;>omega)|fail)only[go_sem]
theorem zrF{av inf t16:Value}{f:Nat}{k3:List Value->World->Prop}{tb:Nat}{s2:List Value}{u5:Env}{w:World}(h:st P (zee T.aQ t16 (gs s2 1) (pt f 0)) w λ_ w'=>∀t u,zbx [av,.nilIface,pt f 0,inf] (pt tb 0) k3 t u w'):
  za9 (pt tb 0) k3 t16 s2 [av,.nilIface,pt f 0,inf] u5 w:=by
 unfold za9;refine zaa (λt w'=>∀t u,zbx [av,.nilIface,pt f 0,inf] (pt tb 0) k3 t u w') ?_ ?_
 ·rintro t e w1 h1;exact h1 t e
 ·rw[gs1,zjG Tryz.underlying116];simp(disch:=first|omega|(simp(disch:=first|omega|fail)only[go_sem]<;>omega)|fail)only[go_sem];rw[zn3 U.aC];simp(disch:=first|omega|(simp(disch:=first|omega|fail)only[go_sem,Option.isSome_some]<;>omega)|fail)only[go_sem,Option.isSome_some];exact h
theorem znb{w:World}{Cz:Nat}{e:Int}{x:Value}(h:ErrV w Cz se e x):x=.nilIface\/∃t y,x=.iface t y:=by
 rcases h.nil_iff with⟨_,h⟩|⟨_,h⟩
 ·exact .inl h
 ·exact .inr h
theorem zbu{av err t16:Value}{n Cz tb:Nat}{e:Int}{az:List SM.Ans}{cs:List (List Value)}{s2:List Value}{u5:Env}{k3:List Value->World->Prop}(J:MJ w0 w p hb m hp se F)(G:MO9 w0 w hb (·=tb) F av n az cs)(hn:n<=1000000)(ht:bk w tb=some (CB ansZ T.ab))(htb:¬F.own tb/\w0.heap.size<=tb/\av.ownBlock≠some tb)
  (fs:FsT w F w' w0.heap.size p m' hp' se) (hm:∀j,(SM.hget m'.hs j).map (λ_=>pt (hp' j) 0)=(SM.hget m.hs j).map λ_=>pt (hp j) 0) (he:ErrV w' Cz se e err) (hC:w0.heap.size<=Cz)
  (hk:∀w' av' cs' F',MJ w0 w' p hb m' hp' se F'->MO9 w0 w' hb (·=tb) F' av' (n+1) (az++[SM.Ans.err e]) cs'->k3 [av'] w'):
  za9 (pt tb 0) k3 t16 s2 [av,err,.pointer none,.pointer none] u5 w':=by
 obtain⟨F',J',k,hF⟩:=J.after fs hm;have G':=G.after k hF;have lt:=zaj ht;have ht':=(k.block tb lt htb.1).trans ht;refine zoF (znb he) λt u=>zoG (znb he) λt u=>?_;exact zrO (a:=SM.Ans.err e) J' G' hn ht' ⟨λq=>htb.1 (hF tb lt q),htb.2⟩ (zb0 _) (zaT _) (zaT _) (λb hb=>by rcases hb with h|h|h<;>cases h) he hC hk
theorem znw{av:Value}{n f tb:Nat}{i:Int}{h:SM.Hnd}{m1:SM.Mem}{az:List SM.Ans}{cs:List (List Value)}{v0:Value}{u5:Env}{k3:List Value->World->Prop}(J:MJ w0 w p hb m hp se F)(G:MO9 w0 w hb (·=tb) F av n az cs)(hn:n<=1000000)(ht:bk w tb=some (CB ansZ T.ab))(htb:¬F.own tb/\w0.heap.size<=tb/\av.ownBlock≠some tb)
  (fr:FileR w F w' w0.heap.size p m1 hp se f h) (hm:m1.hs=m.hs)
  (hk:∀w' av' cs' F',MJ w0 w' p hb (m1.setH i h) (λk=>if k=i then f else hp k) se F'->MO9 w0 w' hb (·=tb) F' av' (n+1) (az++[SM.Ans.z]) cs'->k3 [av'] w'):
  za9 (pt tb 0) k3 (.map (some hb)) [v0,.int .i64 i] [av,.nilIface,pt f 0,.pointer none] u5 w':=by
 obtain⟨M,c,m2,_,_⟩:=J.map;have nhb:tb≠hb:=λe=>by rw[<-e,ht]at m2;cases m2
 refine zrF ?_;rw[gs1];refine J.afterPut G (.inl (fr.number i)) i f (λj=>?_) λw2 F' J2 G2 hb2 t u=>?_
 ·show(SM.hget (SM.hput m1.hs i h) j).map (λ_=>pt (if j=i then f else hp j) 0)=_;rw[SM.zbP,hm];by_cases c:j=i
  ·rw[if_pos c,if_pos c,if_pos c];rfl
  ·rw[if_neg c,if_neg c,if_neg c]
 ·obtain⟨e1,e2⟩:=hb2 tb (zaj ht) htb.1 nhb;refine zoG (.inl rfl) λt u=>?_;exact zrO (a:=SM.Ans.z) J2 G2 hn (e1.trans ht) ⟨e2,htb.2⟩ (zb0 _) (zaT _) (zaT _) (λb hb=>by rcases hb with h|h|h<;>cases h) (ErrV.nil _ w0.heap.size _) (Nat.le_refl _) hk
theorem MJ.else_{S:Nat->Prop}{av:Value}{n:Nat}{az:List SM.Ans}{cs:List (List Value)}(h:MJ w0 w p hb m hp se F)(g:MO9 w0 w hb Tz F av n az cs)(k:Kp w w' S)(hS:∀b,S b->b<w.heap.size->¬F.own b/\b≠hb/\w0.heap.size<=b/\av.ownBlock≠some b/\Tz b)(hS2:∀b,S b->b<w.heap.size):
  ∃F',MJ w0 w' p hb m hp se F'/\MO9 w0 w' hb Tz F' av n az cs/\∀b,F'.own b->F.own b:=by
 have hS:=λb hb=>hS b hb (hS2 b hb);obtain⟨F1,f1,f2⟩:=h.fs.again k (λb hb e=>(hS b e).1 hb) λb e=>(hS b e).2.2.1;obtain⟨M,cc,m1,m2,m3⟩:=h.map;have z:=k.size;refine⟨F1,⟨f1,λb hb=>⟨(f2 b hb).2.1,by have:=(f2 b hb).2.2;omega⟩,⟨λe=>h.hbn.1 (f2 hb e).1,h.hbn.2⟩,⟨M,cc,(k.block hb (zaj m1) λe=>(hS hb e).2.1 rfl).trans m1,m2,m3⟩,h.bel.trans (k.below (λb hb e=>by have:=(hS b e).2.2.1;omega) h.bel.size)⟩,
  ⟨zbQ g.o k λb hb e=>(hS b e).2.2.2.1 hb,λb hb e=>g.nF b hb (f2 b e).1,g.len,AnsAt.to (AnsAt.kp g.ans k λb _ _ hn e=>hn (.inr (.inr (.inr (hS b e).2.2.2.2)))) λb _ _ hn e=>?_⟩,λb hb=>(f2 b hb).1⟩
 rcases e with e|e
 ·exact hn (.inl (f2 b e).1)
 ·exact hn (.inr e)
theorem memInfo{av t16:Value}{n fi tb:Nat}{inf:SM.Info}{az:List SM.Ans}{cs:List (List Value)}{s2:List Value}{u5:Env}{k3:List Value->World->Prop}(J:MJ w0 w p hb m hp se F)(G:MO9 w0 w hb (·=tb) F av n az cs)(hn:n<=1000000)(ht:bk w tb=some (CB ansZ T.ab))(htb:¬F.own tb/\w0.heap.size<=tb/\av.ownBlock≠some tb)
  (fs:FsT w F w' w0.heap.size p m hp se) (hi:InfoAt w' fi inf)
  (hk:∀w' av' cs' F',MJ w0 w' p hb m hp se F'->MO9 w0 w' hb (·=tb) F' av' (n+1) (az++[{SM.Ans.z with infos:=[inf]}]) cs'->k3 [av'] w'):
  za9 (pt tb 0) k3 t16 s2 [av,.nilIface,.pointer none,pt fi 0] u5 w':=by
 obtain⟨F',J',k,hF⟩:=J.after fs λj=>rfl;have G':=G.after k hF;have lt:=zaj ht;have ht':=(k.block tb lt htb.1).trans ht;refine zoF (.inl rfl) λt u=>?_;unfold zbx;refine zaa (λt w2=>∃F2 z,MJ w0 w2 p hb m hp se F2/\MO9 w0 w2 hb (·=tb) F2 av n az cs/\bk w2 tb=some (CB (zbq SM.Ans.z (.slice none 0 0) (.slice none 0 0) z) T.ab)/\RowS w2 z 1 (zf2 [inf])/\(∀b,z.ownBlock=some b->w'.heap.size<=b/\b<w2.heap.size)/\∀b,F2.own b->F'.own b) ?_ ?_
 ·rintro t e w2 ⟨F2,z,J2,G2,t2,r2,o2,s2⟩;have hz:=k.size;refine zrO (a:={SM.Ans.z with infos:=[inf]}) J2 G2 hn t2 ⟨λq=>htb.1 (hF tb lt (s2 tb q)),htb.2⟩ (zb0 _) (zaT _) r2 (λb hb=>?_) (ErrV.nil _ w0.heap.size _) (Nat.le_refl _) hk;rcases hb with h|h|h
  ·cases h
  ·cases h
  ·obtain⟨l1,l2⟩:=o2 b h;have z0:=J.bel.size;obtain⟨M,cc,m1,_,_⟩:=J'.map;have lhb:=zaj m1;refine⟨by omega,l2,λe=>?_⟩;rcases e with e|e|e|e
   ·have:=(J'.own b (s2 b e)).2;omega
   ·omega
   ·have:=(zaW G'.o b e).2;omega
   ·omega
 ·rw[gs1,zjG Tryz.underlying116];simp(disch:=first|omega|(simp(disch:=first|omega|fail)only[go_sem]<;>omega)|fail)only[go_sem];rw[zn3 U.aB];simp(disch:=first|omega|(simp(disch:=first|omega|fail)only[go_sem,Option.isSome_some]<;>omega)|fail)only[go_sem,Option.isSome_some];rw[zbc (z:=.pointer none) _ _ U.ai (by kernel_rfl) rfl];have B3:Below w'.heap.size w' (w'.alloc (CB [pt fi 0] T.aG)):=by repeat (first|exact Below.refl _ _|assumption|refine zag ?_ (by first|omega|(simp only[go_sem]<;>omega)) _|refine Below.alloc ?_ (by first|omega|(simp only[go_sem]<;>omega)) _|refine Below.drew ?_)
  have r3:zaY (bk (w'.alloc (CB [pt fi 0] T.aG)) w'.heap.size) 0 1=some [pt fi 0]:=by rw[zaf _ _ _ rfl];rfl
  have z3:(w'.alloc (CB [pt fi 0] T.aG)).heap.size=w'.heap.size+1:=by simp only[go_sem]
  generalize w'.alloc (CB [pt fi 0] T.aG)=w3 at*;refine zeH (fs:=[fi]) (is:=[inf]) (.inr ⟨_,_,_,rfl,by simp,r3,by omega⟩) (by simp) rfl (λi h1 h2=>?_) λw4 z o4 B4=>?_
  ·have:i=0:=by simp at h1;omega
   subst this;exact hi.old B3
  ·have B14:Below w'.heap.size w' w4:=B3.trans (B4.mono B3.size);have lt':=zaj ht';have ht4:=(zax B14 lt').trans ht';obtain⟨p1,c1,rfl⟩:=zan o4;simp(disch:=first|omega|(simp(disch:=first|omega|fail)only[go_sem,ht4]<;>omega)|fail)only[go_sem,ht4];obtain⟨F4,J4,s4⟩:=J'.old B14;have G4:=G'.old B14 s4;have l4:=zaj ht4;obtain⟨w5,e5⟩:∃w5,w5=setb w4 tb (CB (zbq SM.Ans.z (.slice none 0 0) (.slice none 0 0) (.slice p1 1 c1)) T.ab):=⟨_,rfl⟩;have k5:Kp w4 w5 (·=tb):=by rw[e5];exact Kp.setb _ _ _
   have b5:bk w5 tb=some (CB (zbq SM.Ans.z (.slice none 0 0) (.slice none 0 0) (.slice p1 1 c1)) T.ab):=by rw[e5];exact zap _ _ _ _ rfl l4
   have z5:w5.heap.size=w4.heap.size:=by rw[e5,sZb]
   obtain⟨M,cc,m1,_,_⟩:=J4.map;have nhb:tb≠hb:=λe=>by rw[<-e,ht4]at m1;cases m1
   obtain⟨F5,J5,G5,s5⟩:=J4.else_ G4 k5 (λb e _=>⟨λq=>by rw[e]at q;exact htb.1 (hF tb lt (s4 tb q)),by rw[e];exact nhb,by rw[e];exact htb.2.1,by rw[e];exact htb.2.2,e⟩) λb e=>by rw[e];exact l4
   have o5:=zbQ o4 k5 λb hb e=>by have:=(zaW o4 b hb).1;omega
   have e5':setb w4 tb (CB [.int .i64 0,.int .i64 0,.int .i64 0,.slice none 0 0,.slice none 0 0,.slice p1 [inf].length c1] T.ab)=w5:=e5.symm;rw[e5'];refine⟨F5,.slice p1 1 c1,J5,G5,b5,zgO o5,λb hb=>?_,λb hb=>s4 b (s5 b hb)⟩;have:=zaW o5 b hb;omega
end
end Go.Proofs.YtdljebgllipdjaaGreatDoor.X
end
section
namespace Go.Proofs.YtdljebgllipdjaaGreatDoor.X
open Go Go.X Go.Proofs Go.RowKit
structure InvG(n l:Nat)(c:Int)(m:SM.Mem):Prop where
 wf:SM.Wf m
 rt:(m.find [47]).isSome=true
 nn:m.names.length<=n
 dn:m.nodes.length<=n
 nl:∀x∈m.names,x.length<=l
 dl:∀n∈m.nodes,n.name.length<=l/\n.data.length<=8192
 md:∀n∈m.nodes,0<=n.mode/\n.mode<=4294967295
 hd:∀j h,SM.hget m.hs j=some h->h.node<m.nodes.length/\(0<=h.listed/\h.listed<=n)/\(-(4398046511104+c)<=h.pos/\h.pos<=4398046511104+c)
def Inv(k:Nat)(m:SM.Mem):Prop:=InvG (1+500*k) (500*(k+1)) (8192*(k:Int)) m
section
variable{n l:Nat}{c:Int}{m:SM.Mem}
theorem InvG.to(h:InvG n l c m){n' l':Nat}{c':Int}(h1:n<=n')(h2:l<=l')(h3:c<=c'):InvG n' l' c' m:=⟨h.wf,h.rt,by have:=h.nn;omega,by have:=h.dn;omega,λx hx=>by have:=h.nl x hx;omega,λn hn=>by have:=h.dl n hn;omega,h.md,λi hd hi=>by have:=h.hd i hd hi;omega⟩
theorem InvG.mb(h:InvG n l c m)(hn:n<=999990000)(hl:l<=1000000000):MB m:=⟨by have:=h.nn;omega,by have:=h.dn;omega,h.wf.la,h.wf.lt,λx hx=>by have:=h.nl x hx;omega,λn hn=>by have:=(h.dl n hn).1;omega⟩
theorem InvG.hb(h:InvG n l c m):HB m:=λj hd hj=>(h.hd j hd hj).1
theorem InvG.setH(h:InvG n l c m){i:Int}{hd:SM.Hnd}(h1:hd.node<m.nodes.length)(h2:0<=hd.listed/\hd.listed<=n)(h3:-(4398046511104+c)<=hd.pos/\hd.pos<=4398046511104+c):InvG n l c (m.setH i hd):=by
 refine⟨h.wf.same rfl rfl (Nat.le_refl _),(SM.zhs rfl rfl _).symm▸h.rt,h.nn,h.dn,h.nl,h.dl,h.md,λj hd' hj=>?_⟩;have hj:SM.hget (SM.hput m.hs i hd) j=some hd':=hj;rw[SM.zbP]at hj;by_cases e:j=i
 ·rw[if_pos e]at hj;injection hj with hj;rw[<-hj];exact⟨h1,h2,h3⟩
 ·rw[if_neg e]at hj;exact h.hd j hd' hj
theorem InvG.setNode(h:InvG n l c m){x:Nat}{nd:SM.Node}(h1:nd.name.length<=l)(h2:nd.data.length<=8192)(h3:0<=nd.mode/\nd.mode<=4294967295):InvG n l c (m.setNode x nd):=by
 obtain⟨s1,s2,s3,s4⟩:=SM.za5 m x nd;refine⟨h.wf.same s1 s2 (by rw[s3];exact Nat.le_refl _),(SM.zhs s1 s2 _).symm▸h.rt,by rw[s1];exact h.nn,by rw[s3];exact h.dn,by rw[s1];exact h.nl,λy hy=>?_,λy hy=>?_,λj hd hj=>?_⟩
 ·rcases List.mem_or_eq_of_mem_set hy with q|q
  ·exact h.dl y q
  ·rw[q];exact⟨h1,h2⟩
 ·rcases List.mem_or_eq_of_mem_set hy with q|q
  ·exact h.md y q
  ·rw[q];exact h3
 ·rw[s3];exact h.hd j hd hj
theorem InvG.node(h:InvG n l c m){x:Nat}(hx:x<m.nodes.length):(m.node x).name.length<=l/\(m.node x).data.length<=8192/\0<=(m.node x).mode/\(m.node x).mode<=4294967295:=by rw[zdA hx];have:=h.dl _ (List.getElem_mem hx);exact⟨this.1,this.2,h.md _ (List.getElem_mem hx)⟩
theorem InvG.add(h:InvG n l c m){q:Str}(hq:q.length<=l){nd:SM.Node}(hn:nd.data=[])(hm:0<=nd.mode/\nd.mode<=4294967295):InvG (n+1) l c (m.add q nd):=by
 obtain⟨a1,a2,a3,a4,a5,a6⟩:=SM.zeF h.wf q nd;have n1:=h.nn;have n2:=h.dn;have al:(m.add q nd).nodes.length=m.nodes.length+1:=by rw[a4];simp
 refine⟨a1,?_,by omega,by omega,λy hy=>?_,λy hy=>?_,λy hy=>?_,λj hd hj=>?_⟩
 ·rw[a2];split
  ·rfl
  ·exact h.rt
 ·rcases(a3 y).1 hy with q|q
  ·rw[q];omega
  ·exact h.nl y q
 ·rw[a4]at hy;rcases List.mem_append.1 hy with q|q
  ·exact h.dl y q
  ·simp at q;rw[q];simp only[hn];exact⟨by omega,by simp⟩
 ·rw[a4]at hy;rcases List.mem_append.1 hy with q|q
  ·exact h.md y q
  ·simp at q;rw[q];exact hm
 ·rw[a5]at hj;obtain⟨h1,h2,h3⟩:=h.hd j hd hj;exact⟨by omega,by omega,by omega⟩
theorem zsq{perm:Int}(hp:0<=perm/\perm<=4294967295):0<=orI 2147483648 perm/\orI 2147483648 perm<=4294967295:=by rw[zq0 hp];have:2147483648|||perm.toNat<2^32:=Nat.or_lt_two_pow (by decide) (by omega);omega
theorem InvG.parents(h:InvG n l c m){perm:Int}(hp:0<=perm/\perm<=4294967295):∀(k:Nat){q:Str},q.length<=k->q.length<=l->InvG (n+(k+1)) l c (m.parents q perm):=by
 intro k
 induction k with
 |zero=>
  intro q hk hl;have e:q=[]:=List.length_eq_zero_iff.1 (by omega);have e2:SM.parent q=[47]:=by rw[e];rfl
  cases e3:m.find (SM.parent q)with
  |some x=>rw[SM.zbN e3];exact h.to (by omega) (Nat.le_refl _) (Int.le_refl _)
  |none=>have:=h.rt;rw[e2]at e3;rw[e3]at this;cases this
 |succ k ih=>
  intro q hk hl;cases e3:m.find (SM.parent q)with
  |some x=>rw[SM.zbN e3];exact h.to (by omega) (Nat.le_refl _) (Int.le_refl _)
  |none=>
   have hp':SM.parent q≠[47]:=λe=>by have:=h.rt;rw[e]at e3;rw[e3]at this;cases this
   have hlt:=(SM.zaZ q).resolve_right hp';rw[SM.zeG h.rt e3];have:=(ih (q:=SM.parent q) (by omega) (by omega)).add (q:=SM.parent q) (nd:=⟨true,orI 2147483648 perm,[],0,[]⟩) (by omega) rfl (zsq hp);exact this.to (by omega) (Nat.le_refl _) (Int.le_refl _)
theorem InvG.drop(h:InvG n l c m){q:Str}(hl:q≠[47]):InvG n l c (m.drop q):=by obtain⟨d1,d2,d3⟩:=SM.zku h.wf q;obtain⟨e1,e2⟩:=SM.zcp m q;have:=(SM.znW h.wf q).1;refine⟨d1,by rw[d2,if_neg (Ne.symm hl)];exact h.rt,by have:=h.nn;omega,by rw[e1];exact h.dn,λx hx=>h.nl x ((d3 x).1 hx).2,by rw[e1];exact h.dl,by rw[e1];exact h.md,by rw[e1,e2];exact h.hd⟩
theorem InvG.dropAll:∀(ns:List Str){m:SM.Mem},InvG n l c m->(∀q∈ns,q≠[47])->InvG n l c (m.dropAll ns)
 |[],m,h,_=>h
 |q::ns,m,h,hn=>InvG.dropAll ns (h.drop (hn q (List.mem_cons_self ..))) λx hx=>hn x (List.mem_cons_of_mem _ hx)
theorem XKnames{m:SM.Mem}(h:SM.Wf m)(q:Str):q∈m.names↔(m.find q).isSome=true:=by
 have:=SM.zco h q;cases e:m.find q with
 |none=>simp[this.1 e]
 |some x=>simp[(SM.zbO h e).1]
theorem zjj(m:SM.Mem)(src dst q:Str)(x:Nat):((m.moved src dst q).node x).data=(m.node x).data/\((m.moved src dst q).node x).mode=(m.node x).mode/\(((m.moved src dst q).node x).name=(m.node x).name\/((m.moved src dst q).node x).name=dst++q.drop src.length)/\(m.moved src dst q).hs=m.hs/\(m.moved src dst q).nodes.length=m.nodes.length:=by
 have dn:=(SM.zcp m q);have pn:=(SM.zeV (m.drop q) (dst++q.drop src.length) ((m.find q).getD 0));have en:∀y,((m.drop q).put (dst++q.drop src.length) ((m.find q).getD 0)).node y=m.node y:=λy=>by unfold SM.Mem.node;rw[pn.1,dn.1]
 unfold SM.Mem.moved;simp only
 refine⟨?_,?_,?_,by show _=_;rw[<-dn.2,<-pn.2];rfl,by unfold SM.Mem.setNode;simp only[List.length_set];rw[pn.1,dn.1]⟩
 all_goals
  by_cases hx:(m.find q).getD 0<((m.drop q).put (dst++q.drop src.length) ((m.find q).getD 0)).nodes.length
  ·rw[SM.zgQ _ _ _ hx];by_cases e:x=(m.find q).getD 0
   ·rw[if_pos e];simp only[en,e]
    try simp
   ·rw[if_neg e];simp only[en]
    try simp
  ·have:((m.drop q).put (dst++q.drop src.length) ((m.find q).getD 0)).setNode ((m.find q).getD 0) {((m.drop q).put (dst++q.drop src.length) ((m.find q).getD 0)).node ((m.find q).getD 0)with name:=dst++q.drop src.length}=(m.drop q).put (dst++q.drop src.length) ((m.find q).getD 0):=by unfold SM.Mem.setNode;rw[List.set_eq_of_length_le (by omega)]
   rw[this];simp only[en]
   try simp
theorem zpX{m:SM.Mem}{nd:SM.Node}(h:nd∈m.nodes):∃x,x<m.nodes.length/\m.node x=nd:=by obtain⟨x,hx,e⟩:=List.getElem_of_mem h;exact⟨x,hx,by rw[zdA hx];exact e⟩
theorem InvG.moved(h:InvG n l c m){src dst q:Str}(hq:q∈m.names)(q47:q≠[47])(hl:dst.length+q.length<=l):InvG n l c (m.moved src dst q):=by
 obtain⟨a1,a2,a3,a4,a5⟩:=SM.zi7 h.wf src dst hq;have hlen:(dst++q.drop src.length).length<=l:=by simp;omega
 refine⟨a1,?_,by have:=h.nn;omega,by have:=h.dn;omega,λy hy=>?_,λy hy=>?_,λy hy=>?_,λj hd hj=>?_⟩
 ·rw[a2];by_cases e:[47]=dst++q.drop src.length
  ·rw[if_pos e];exact(XKnames h.wf q).1 hq
  ·rw[if_neg e,if_neg (Ne.symm q47)];exact h.rt
 ·rcases(a3 y).1 hy with e|e
  ·rw[e];exact hlen
  ·exact h.nl y e.2
 ·obtain⟨x,hx,rfl⟩:=zpX hy;obtain⟨m1,m2,m3,m4,m5⟩:=zjj m src dst q x;have:=h.node (x:=x) (by omega);rw[m1];refine⟨?_,this.2.1⟩;rcases m3 with e|e
  ·rw[e];exact this.1
  ·rw[e];exact hlen
 ·obtain⟨x,hx,rfl⟩:=zpX hy;obtain⟨m1,m2,m3,m4,m5⟩:=zjj m src dst q x;rw[m2];exact(h.node (x:=x) (by omega)).2.2
 ·obtain⟨m1,m2,m3,m4,m5⟩:=zjj m src dst q 0;rw[m4]at hj;rw[m5];exact h.hd j hd hj
theorem InvG.fold{src dst:Str}:∀(L:List Str){m:SM.Mem},InvG n l c m->L.Nodup->(∀q∈L,q∈m.names/\q≠[47]/\dst.length+q.length<=l)->InvG n l c (L.foldl (λm n=>m.moved src dst n) m)
 |[],m,h,_,_=>h
 |q::L,m,h,nd,hL=>by rw[List.foldl_cons];rw[List.nodup_cons]at nd;obtain⟨h1,h2,h3⟩:=hL q (List.mem_cons_self ..);refine InvG.fold L (h.moved h1 h2 h3) nd.2 λy hy=>?_;obtain⟨g1,g2,g3⟩:=hL y (List.mem_cons_of_mem _ hy);exact⟨((SM.zi7 h.wf src dst h1).2.2.1 y).2 (.inr ⟨λe=>nd.1 (by rw[<-e];exact hy),g1⟩),g2,g3⟩
theorem zrM{nd:SM.Node}{h:SM.Hnd}{s:SM.Stp}(hd:nd.dir=false)(p:SpF nd h s)(hc:0<=c/\c<=10000000000000)(h1:nd.data.length<=8192)(h2:nd.name.length<=1000000)(h3:0<=nd.mode/\nd.mode<=4294967295)(h4:-(4398046511104+c)<=h.pos/\h.pos<=4398046511104+c):
  (zbh nd h s).1.data.length<=8192/\(0<=(zbh nd h s).1.mode/\(zbh nd h s).1.mode<=4294967295)/\-(4398046511104+(c+8192))<=(zbh nd h s).2.1.pos/\(zbh nd h s).2.1.pos<=4398046511104+(c+8192):=by
 have R:Rel c ⟨nd.data,h.pos,h.cl,h.ro,h.listed,nd.name,.map none,nd.dir,nd.mode,nd.time,0,0⟩ nd h:=⟨rfl,rfl,rfl,hd,hd,rfl,rfl,rfl,h1,h2,h3,λ_=>rfl,by simp only;omega,by omega,by omega⟩;obtain⟨r,_⟩:=R.step p;exact⟨r.len,r.md,by have:=r.ph;omega⟩
theorem zqb(h:InvG n l c m){k:Int}{hd:SM.Hnd}{r:SM.Node×SM.Hnd×SM.Ans}{c':Int}(hcc:c<=c')(hk:SM.hget m.hs k=some hd)(e1:r.1.name.length<=l)(e2:r.1.data.length<=8192)(e3:0<=r.1.mode/\r.1.mode<=4294967295)(e4:r.2.1.node=hd.node)(e5:0<=r.2.1.listed/\r.2.1.listed<=n)(e6:-(4398046511104+c')<=r.2.1.pos/\r.2.1.pos<=4398046511104+c'):InvG n l c' (setF m k hd.node r).1:=by have a:=(h.setNode (x:=hd.node) e1 e2 e3).to (Nat.le_refl n) (Nat.le_refl l) hcc;have hn:=(h.hd _ _ hk).1;have b:=a.setH (i:=k) (hd:=r.2.1) (by rw[e4,(SM.za5 m hd.node r.1).2.2.1];exact hn) e5 e6;exact b
theorem InvG.step(h:InvG n l c m)(hl:402<=l/\l<=1000000)(hc:0<=c/\c<=10000000000000){s:SM.Stp}(sp:m.speaks s=true)(i:Int):InvG (n+500) (l+500) (c+8192) (m.doS i s).1:=by
 unfold SM.Mem.speaks at sp;by_cases c0:400<s.name.length\/400<s.other.length\/4096<s.data.length
 ·rw[if_pos c0]at sp;cases sp
 rw[if_neg c0]at sp;have wk:∀{m'},InvG n l c m'->InvG (n+500) (l+500) (c+8192) m':=λh=>h.to (by omega) (by omega) (by omega);have nl:=zbH s.name;have nl2:=zbH s.other;have perm0:∀p,0<=andI p SM.zal/\andI p SM.zal<=4294967295:=λp=>by have:=zg0 p (c:=13631999) (by decide);have e:andI p SM.zal=andI p ((13631999:Nat):Int):=rfl;rw[e];omega
 have mk:∀{perm:Int}{nd:SM.Node},(0<=perm/\perm<=4294967295)->nd.data=[]->(0<=nd.mode/\nd.mode<=4294967295)->InvG (n+500) (l+500) (c+8192) ((m.parents (norm s.name) perm).add (norm s.name) nd)/\(m.parents (norm s.name) perm).nodes.length<((m.parents (norm s.name) perm).add (norm s.name) nd).nodes.length:=λ{perm nd} hp hd hm=>by have a:=h.parents hp 401 (q:=norm s.name) (by omega) (by omega);exact⟨(a.add (q:=norm s.name) (by omega) hd hm).to (by omega) (by omega) (by omega),by rw[SM.zi8 a.wf];omega⟩
 unfold SM.Mem.doS;by_cases o1:0<=s.op/\s.op<=2
 ·rw[if_pos o1]at sp⊢;unfold SM.Mem.openS;simp only
  by_cases e0:s.op=0
  ·rw[if_pos e0];obtain⟨a,b⟩:=mk (perm:=0) (nd:=⟨false,268435456,[],0,[]⟩) (by omega) rfl (by simp);exact a.setH b ⟨by simp,by simp;omega⟩ ⟨by simp only;omega,by simp only;omega⟩
  rw[if_neg e0];by_cases e1:s.op=1
  ·rw[if_pos e1];cases e:m.find (norm s.name)with
   |none=>exact wk h
   |some x=>exact wk (h.setH (h.wf.find_lt e) ⟨by simp,by simp⟩ ⟨by simp only;omega,by simp only;omega⟩)
  rw[if_neg e1];cases e:m.find (norm s.name)with
  |none=>
   simp only[Option.isSome_none,Option.isNone_none,Bool.false_and,Bool.true_and,if_true,Bool.false_eq_true,if_false];by_cases c1:(!SM.has s.flag 64)=true
   ·rw[if_pos c1];exact wk h
   rw[if_neg c1];obtain⟨a,b⟩:=mk (perm:=0) (nd:=⟨false,andI s.perm SM.zal,[],0,[]⟩) (by omega) rfl (perm0 _);have an:=a.node b;have key:∀(x:Int),0<=x/\x<=8192->∀ro,∀M:SM.Mem,InvG (n+500) (l+500) (c+8192) M->M.nodes.length=((m.parents (norm s.name) 0).add (norm s.name) ⟨false,andI s.perm SM.zal,[],0,[]⟩).nodes.length->InvG (n+500) (l+500) (c+8192) (M.setH i ⟨(m.parents (norm s.name) 0).nodes.length,x,0,false,ro⟩):=λx hx ro M hM hn=>hM.setH (by rw[hn];exact b) ⟨by simp,by simp;omega⟩ ⟨by simp only;omega,by simp only;omega⟩;refine key _ ?_ _ _ ?_ ?_
   ·split
    ·exact⟨by omega,by omega⟩
    ·omega
   ·split
    ·exact a.setNode (by exact an.1) (by simp) an.2.2
    ·exact a
   ·split
    ·exact(SM.za5 _ _ _).2.2.1
    ·rfl
  |some x=>
   simp only[Option.isSome_some,Option.isNone_some,Bool.false_and,Bool.true_and,if_true,Bool.false_eq_true,if_false];by_cases c1:SM.has s.flag 128=true
   ·rw[if_pos c1];exact wk h
   rw[if_neg c1];have hx:=h.wf.find_lt e;have an:=h.node hx;have key:∀(y:Int),0<=y/\y<=8192->∀ro,∀M:SM.Mem,InvG n l c M->M.nodes.length=m.nodes.length->InvG n l c (M.setH i ⟨x,y,0,false,ro⟩):=λy hy ro M hM hn=>hM.setH (by rw[hn];exact hx) ⟨by simp,by simp⟩ ⟨by simp only;omega,by simp only;omega⟩;refine wk (key _ ?_ _ _ ?_ ?_)
   ·split
    ·exact⟨by omega,by omega⟩
    ·omega
   ·split
    ·exact h.setNode (by exact an.1) (by simp) an.2.2
    ·exact h
   ·split
    ·exact(SM.za5 _ _ _).2.2.1
    ·rfl
 rw[if_neg o1]at sp⊢;by_cases o2:3<=s.op/\s.op<=11
 ·rw[if_pos o2]at sp⊢;unfold SM.Mem.speaksNames at sp;simp only at sp;cases hn:SM.zbF s.name with
  |false=>rw[if_pos hn]at sp;cases sp
  |true=>
  rw[if_neg (by rw[hn];simp)]at sp;have kn:=SM.zeW hn;unfold SM.Mem.namesS;simp only
  by_cases c9:s.op=9/\norm s.name≠s.name
  ·rw[if_pos c9];exact wk h
  rw[if_neg c9];by_cases c3:s.op=3\/s.op=4
  ·rw[if_pos c3];split
   ·exact wk h
   ·split
    ·exact(mk (perm0 _) rfl (zsq (perm0 _))).1
    ·exact wk h
  rw[if_neg c3]at sp⊢;by_cases c6:s.op=6
  ·rw[if_neg (by omega),if_pos c6]at sp;rw[if_pos c6];simp only[ne_eq,decide_not,Bool.not_eq_eq_eq_not,Bool.not_true,decide_eq_false_iff_not]at sp;refine wk (InvG.dropAll _ h λq hq=>?_);simp only[List.mem_filter,Bool.or_eq_true,decide_eq_true_eq]at hq;rintro rfl;rcases hq.2 with e|e
   ·exact sp e.symm
   ·obtain⟨r,hr⟩:=(SM.zaz sp).1 e;have:=congrArg List.length hr;have:0<(norm s.name).length:=List.length_pos_iff.2 (SM.zb5 kn);simp at*;omega
  rw[if_neg c6];by_cases c7:s.op=7
  ·rw[if_neg (by omega),if_neg (by omega),if_pos c7]at sp;rw[if_pos c7];unfold SM.Mem.renameS;by_cases e1:norm s.name=norm s.other
   ·rw[if_pos e1];exact wk h
   rw[if_neg e1];by_cases e2:(m.find (norm s.name)).isNone=true
   ·rw[if_pos e2];exact wk h
   rw[if_neg e2];simp only[Bool.and_eq_true,Bool.or_eq_true,decide_eq_true_eq,Bool.not_eq_true']at sp;obtain⟨_,sp|⟨⟨⟨⟨s47,d47⟩,_⟩,_⟩,_⟩⟩:=sp
   ·exact absurd sp e1
   have a:=h.parents (perm:=0) (by omega) 401 (q:=norm s.other) (by omega) (by omega);have anl:=a.nl;refine InvG.fold _ (a.to (by omega) (by omega) (by omega)) (List.Pairwise.filter _ (List.Pairwise.imp (R:=(·<·)) (S:=(·≠·)) (λ{a b}h e=>SM.zbb a (by rw[<-e]at h;exact h)) a.wf.srt)) λq hq=>?_;rw[List.mem_filter]at hq;have:=anl q hq.1;refine⟨hq.1,?_,by omega⟩;rintro rfl;simp only[Bool.or_eq_true,decide_eq_true_eq]at hq;rcases hq.2 with e|e
   ·exact s47 e.symm
   ·obtain⟨r,hr⟩:=(SM.zaz s47).1 e;have:=congrArg List.length hr;have:0<(norm s.name).length:=List.length_pos_iff.2 (SM.zb5 kn);simp at*;omega
  rw[if_neg c7];cases e:m.find (norm s.name)with
  |none=>exact wk h
  |some x=>
   simp only
   have hx:=h.wf.find_lt e;have an:=h.node hx;by_cases c5:s.op=5
   ·rw[if_pos c5]at sp;rw[if_pos c5];simp only[Bool.and_eq_true,decide_eq_true_eq]at sp;exact wk (h.drop sp.1)
   rw[if_neg c5];by_cases c8:s.op=8
   ·rw[if_pos c8];exact wk h
   rw[if_neg c8];by_cases c9':s.op=9
   ·rw[if_pos c9'];have r:=zg0 s.perm (c:=13631999) (by decide);have e9:andI s.perm SM.zal=andI s.perm ((13631999:Nat):Int):=rfl;refine wk (h.setNode (by exact an.1) (by exact an.2.1) ?_);simp only
    have:=zn0 (m:=(m.node x).mode) (b:=andI s.perm SM.zal) an.2.2 (by rw[e9];omega);rw[show SM.zal=13631999 from rfl]at this⊢;rw[<-this];have:(((m.node x).mode.toNat&&&4281335296:Nat):Int).toNat|||(andI s.perm 13631999).toNat<2^32:=by
     refine Nat.or_lt_two_pow ?_ ?_
     ·rw[Int.toNat_natCast];exact Nat.lt_of_le_of_lt Nat.and_le_left (by omega)
     ·have:andI s.perm 13631999=andI s.perm ((13631999:Nat):Int):=rfl;rw[this];omega
    omega
   rw[if_neg c9'];by_cases c11:s.op=11
   ·rw[if_pos c11];exact wk (h.setNode (by exact an.1) (by exact an.2.1) (by exact an.2.2))
   ·rw[if_neg c11];exact wk h
 rw[if_neg o2]at sp⊢;cases e:SM.hget m.hs s.h with
 |none=>exact wk h
 |some hd=>
  rw[e]at sp;simp only at sp⊢;by_cases o3:s.op<12\/23<s.op
  ·rw[if_pos o3];exact wk h
  rw[if_neg o3];obtain⟨g1,g2,g3⟩:=h.hd _ _ e;have an:=h.node g1;by_cases ol:(m.node hd.node).dir=true/\(s.op=19\/s.op=20)
  ·obtain⟨d1,d2⟩:=ol;unfold SM.Mem.fileS;rw[if_neg (by omega),if_neg (by omega),if_neg (by omega),if_neg (by omega),if_pos d2];unfold SM.Mem.listS;simp only
   rw[if_neg (by rw[d1];simp)];unfold SM.Mem.speaksFile at sp;simp only at sp;rw[if_pos d2,d1]at sp;simp only[Bool.not_true,Bool.false_or,Bool.and_eq_true,decide_eq_true_eq]at sp;obtain⟨sp1,sp2⟩:=sp;have hcl:(m.children (m.node hd.node).name).length<=m.names.length:=List.length_filter_le _ _;have hnn:=h.nn;have hL:∀N:Nat,(N:Int)<=(m.children (m.node hd.node).name).length - hd.listed->InvG (n+500) (l+500) (c+8192) (m.setH s.h {hd with listed:=hd.listed+N}):=λN hN=>wk (h.setH g1 ⟨by simp only;omega,by simp only;omega⟩ g3)
   split
   all_goals
    refine hL _ ?_;simp only[List.length_take,List.length_drop]<;>omega
  ·by_cases dd:(m.node hd.node).dir=true
   ·have ops:s.op=18\/s.op=21\/s.op=22\/s.op=23:=by
     unfold SM.Mem.speaksFile at sp;simp only[dd,Bool.true_or,if_true]at sp;by_cases cc:s.op=18\/s.op=21\/s.op=22\/s.op=23
     ·exact cc
     ·rw[if_neg (λq=>ol ⟨dd,q⟩),if_neg cc]at sp;cases sp
    rw[zno s e g1 (λq=>absurd ⟨dd,q⟩ ol)];obtain⟨k1,k2⟩:=zji (m.node hd.node) hd s;have k3:=(zjl (m.node hd.node) hd s).1;have pp:(zbh (m.node hd.node) hd s).1.data=(m.node hd.node).data/\(zbh (m.node hd.node) hd s).1.mode=(m.node hd.node).mode/\(zbh (m.node hd.node) hd s).2.1.pos=hd.pos:=by
     rcases ops with q|q|q|q
     ·rw[znP q];cases hd.ro<;>exact⟨rfl,rfl,rfl⟩
     ·rw[znS q];exact⟨rfl,rfl,rfl⟩
     ·rw[znR q];exact⟨rfl,rfl,rfl⟩
     ·rw[znE q];exact⟨rfl,rfl,rfl⟩
    exact wk (zqb h (Int.le_refl _) e (by rw[k2];exact an.1) (by rw[pp.1];exact an.2.1) (by rw[pp.2.1];exact an.2.2) k3 (by rw[k1];exact g2) (by rw[pp.2.2];exact g3))
   ·have dd:(m.node hd.node).dir=false:=by simpa using dd
    have SP:=zt9 (m:=m) (s:=s) rfl dd (by omega) (by omega) sp;rw[zno s e g1 (λ_=>dd)];obtain⟨k1,k2⟩:=zji (m.node hd.node) hd s;have k3:=(zjl (m.node hd.node) hd s).1;obtain⟨f1,f2,f3⟩:=zrM dd SP hc an.2.1 (by omega) an.2.2 g3;exact(zqb h (c':=c+8192) (by omega) e (by rw[k2];exact an.1) f1 f2 k3 (by rw[k1];exact g2) f3).to (by omega) (by omega) (Int.le_refl _)
theorem Inv.step{k:Nat}(h:Inv k m)(hk:k<=1000){s:SM.Stp}(sp:m.speaks s=true)(i:Int):Inv (k+1) (m.doS i s).1:=by have:=InvG.step h (by omega) (by omega) sp i;exact this.to (by omega) (by omega) (by omega)
theorem Inv.mb{k:Nat}{m:SM.Mem}(h:Inv k m)(hk:k<=1000):MB m:=InvG.mb h (by omega) (by omega)
theorem Inv.hb{k:Nat}{m:SM.Mem}(h:Inv k m):HB m:=InvG.hb h
theorem Inv.fb{k:Nat}{m:SM.Mem}(h:Inv k m)(hk:k<=1000){s:SM.Stp}(hf:s.op<18->-1099511627776<=s.off/\s.off<=1099511627776)(hn:s.op<18->s.n<=4096)(hdl:s.data.length<=4096):∀hd,SM.hget m.hs s.h=some hd->FB m hd s/\0<=hd.listed:=λhd hj=>by obtain⟨h1,h2,h3⟩:=h.hd _ _ hj;have hm:=h.dl _ (List.getElem_mem h1);rw[<-zdA h1]at hm;exact⟨⟨h1,by omega,by omega,by omega,λq=>by have:=hf q;omega,λq=>by have:=hn q;omega,by omega,by omega⟩,h2.1⟩
theorem Inv.start:Inv 0 SM0:=by refine⟨⟨by simp[SM0],by simp[SM0],by simp[SM0]⟩,by decide,by simp[SM0],by simp[SM0],by simp[SM0],by simp[SM0],by simp[SM0],λj h hj=>by cases hj⟩
end
end Go.Proofs.YtdljebgllipdjaaGreatDoor.X
end
section
namespace Go.Proofs.YtdljebgllipdjaaGreatDoor.X
open Go Go.X Go.Proofs Go.RowKit Go.X.PM Go.Lib
theorem FsI.mi{w w0:World}{F0:Fp}{B p:Nat}{m:SM.Mem}{hp:Int->Nat}{se:Nat->Nat×Nat}(h:FsI w0 F0 w B p m hp se):SM.MI m none:=by obtain⟨s,mb,rep,ps,h,r⟩:=h;exact r.mi
theorem mi0:SM.MI SM0 none:=(rel0 (hp:=λ_=>0) 0).mi
theorem FsT.mi{w w0:World}{F0:Fp}{B p:Nat}{m:SM.Mem}{hp:Int->Nat}{se:Nat->Nat×Nat}(h:FsT w0 F0 w B p m hp se):SM.MI m none:=by
 rcases h with h|h
 ·exact h.mi
 ·rw[h.m0];exact mi0
structure MC(w0 w:World)(p hb tb sb:Nat)(m:SM.Mem)(hp:Int->Nat)(se:Nat->Nat×Nat)(F:Fp)(av:Value)(n:Nat)(az:List SM.Ans)(cs:List (List Value))(q:SM.Stp)(x:Value)(k:Nat):Prop where
 J:MJ w0 w p hb m hp se F
 G:MO9 w0 w hb (·=tb) F av n az cs
 hn:n<=1000000
 ht:bk w tb=some (CB ansZ T.ab)
 htb:¬F.own tb/\w0.heap.size<=tb/\av.ownBlock≠some tb
 hs:bk w sb=some (CB (zaC q x) T.ae)
 hx:BS w x q.data
 inv:Inv k m
 hk:k<=70
 sp:m.speaks q=true
section
variable{w w' w0:World}{F0 F:Fp}{K:Value->World->Prop}{B p hb tb sb:Nat}{se:Nat->Nat×Nat}
 {m m':SM.Mem} {hp hp':Int->Nat} {av:Value} {n k:Nat} {az:List SM.Ans} {cs:List (List Value)} {q:SM.Stp} {x:Value} {i:Int}
 {k3:List Value->World->Prop}
abbrev MK(w0:World)(p hb tb:Nat)(m:SM.Mem)(se:Nat->Nat×Nat)(n:Nat)(az:List SM.Ans)(q:SM.Stp)(i:Int)(k3:List Value->World->Prop):Prop:=∀w' av' cs' F' hp',MJ w0 w' p hb (m.doS i q).1 hp' se F'->MO9 w0 w' hb (·=tb) F' av' (n+1) (az++[(m.doS i q).2]) cs'->k3 [av'] w'
abbrev K4(tb hb:Nat)(k3:List Value->World->Prop)(av:Value)(i:Int):List Value->World->Prop:=λs w=>∀u,za9 (pt tb 0) k3 (.map (some hb)) [av,.int .i64 i] s u w
theorem zpm(sp:m.speaks q=true)(ho:0<=q.op/\q.op<=2):q.name.length<=400/\SM.zbF q.name=true/\m.speaksOpen q=true:=by
 unfold SM.Mem.speaks at sp;by_cases c0:400<q.name.length\/400<q.other.length\/4096<q.data.length
 ·rw[if_pos c0]at sp;cases sp
 rw[if_neg c0,if_pos ho]at sp;refine⟨by omega,?_,sp⟩;unfold SM.Mem.speaksOpen at sp;simp only at sp;cases hn:SM.zbF q.name with
 |true=>rfl
 |false=>rw[if_pos hn]at sp;cases sp
theorem zfu(sp:m.speaks q=true)(ho:3<=q.op/\q.op<=11):q.name.length<=400/\q.other.length<=400/\SM.zbF q.name=true/\m.speaksNames q=true:=by
 unfold SM.Mem.speaks at sp;by_cases c0:400<q.name.length\/400<q.other.length\/4096<q.data.length
 ·rw[if_pos c0]at sp;cases sp
 rw[if_neg c0,if_neg (by omega),if_pos ho]at sp;refine⟨by omega,by omega,?_,sp⟩;unfold SM.Mem.speaksNames at sp;simp only at sp;cases hn:SM.zbF q.name with
 |true=>rfl
 |false=>rw[if_pos hn]at sp;cases sp
theorem znL(m:SM.Mem)(i:Int)(q:SM.Stp)(ho:0<=q.op/\q.op<=2):m.doS i q=m.openS i q:=by unfold SM.Mem.doS;rw[if_pos ho]
theorem zdT(m:SM.Mem)(i:Int)(q:SM.Stp)(ho:3<=q.op/\q.op<=11):m.doS i q=m.namesS q:=by unfold SM.Mem.doS;rw[if_neg (by omega),if_pos ho]
theorem zmb{m m':SM.Mem}(e:m'.hs=m.hs)(hp:Int->Nat):∀j,(SM.hget m'.hs j).map (λ_=>pt (hp j) 0)=(SM.hget m.hs j).map λ_=>pt (hp j) 0:=λj=>by rw[e]
theorem znu{m:SM.Mem}(h:SM.MI m none)(l:Str)(perm:Int)(nd:SM.Node):((m.parents l perm).add l nd).hs=m.hs:=by obtain⟨p1,p2,p3,⟨x,p4,p5⟩,p6⟩:=SM.zeU perm h.root (l.length+2) l h.wf;exact(SM.zeF (m:=m.parents l perm) p1 l nd).2.2.2.2.1.trans p6
set_option maxHeartbeats 1000000
theorem mem6(g:MC w0 w p hb tb sb m hp se F av n az cs q x k)(ho:q.op=0)(hk:MK w0 p hb tb m se n az q i k3):zd3 (pt sb 0) w (pt p 0) (K4 tb hb k3 av i) [av,.int .i64 i]:=by obtain⟨s1,s2,s3⟩:=zpm g.sp (by omega);have mi:=g.J.fs.mi;have hsb:=g.hs;unfold MK at hk;rw[znL m i q (by omega)]at hk;unfold SM.Mem.openS at hk;simp only at hk;rw[if_pos ho]at hk;unfold SM.Mem.speaksOpen at s3;simp only at s3;rw[if_neg (by rw[s2];simp),if_pos ho]at s3;simp only[Bool.and_eq_true,Bool.not_eq_true']at s3;unfold zd3;simp(disch:=first|omega|(simp(disch:=first|omega|fail)only[go_sem,hsb]<;>omega)|fail)only[go_sem,hsb];refine zml (w0:=w) (F0:=F) g.J.fs s2 mi.rt s3.1 s3.2 λw' f h2=>?_;simp(disch:=first|omega|(simp(disch:=first|omega|fail)only[go_sem]<;>omega)|fail)only[go_sem];intro u;exact znw g.J g.G g.hn g.ht g.htb h2 (znu mi _ _ _) λw' av' cs' F'=>hk w' av' cs' F' _
theorem zc0{g:Nat}(hg:g∈four){C:Nat}{x:Value}{op:Str}(h:PE w C x op (se g)):ErrV w C se (zck g) x:=.inr (.inr (.inl ⟨g,hg,op,h,rfl⟩))
theorem mem7(g:MC w0 w p hb tb sb m hp se F av n az cs q x k)(ho:q.op=1)(hk:MK w0 p hb tb m se n az q i k3):zfE (pt sb 0) w (pt p 0) (K4 tb hb k3 av i) [av,.int .i64 i]:=by
 obtain⟨s1,s2,s3⟩:=zpm g.sp (by omega);have mi:=g.J.fs.mi;have hsb:=g.hs;unfold MK at hk;rw[znL m i q (by omega)]at hk;unfold SM.Mem.openS at hk;simp only at hk;rw[if_neg (by omega),if_pos ho]at hk;unfold zfE;simp(disch:=first|omega|(simp(disch:=first|omega|fail)only[go_sem,hsb]<;>omega)|fail)only[go_sem,hsb];refine zl4 (w0:=w) (F0:=F) g.J.fs (by omega) (λe w' y h2 h3=>?_) λy w' f e h2=>?_
 ·rw[e]at hk;simp(disch:=first|omega|(simp(disch:=first|omega|fail)only[go_sem]<;>omega)|fail)only[go_sem];intro u;exact zbu g.J g.G g.hn g.ht g.htb (.inl h2) (λj=>rfl) (zc0 (by decide) h3) g.J.bel.size λw' av' cs' F'=>hk w' av' cs' F' hp
 ·rw[e]at hk;simp(disch:=first|omega|(simp(disch:=first|omega|fail)only[go_sem]<;>omega)|fail)only[go_sem];intro u;exact znw g.J g.G g.hn g.ht g.htb h2 rfl λw' av' cs' F'=>hk w' av' cs' F' _
theorem sp2(sp:m.speaksOpen q=true)(hn:SM.zbF q.name=true)(ho:q.op=2):(m.find (norm q.name)=none->SM.has q.flag 64=true->m.clear (norm q.name)=true):=λhf h64=>by
 unfold SM.Mem.speaksOpen at sp;simp only at sp;rw[if_neg (by rw[hn];simp),if_neg (by omega),if_neg (by omega),hf]at sp;unfold SM.has at h64;simp only[Bool.and_eq_true,Option.isSome_none,Bool.false_or,Bool.or_eq_true,decide_eq_true_eq]at sp h64;rcases sp.1.2 with e|e
 ·exact absurd e h64
 ·exact e
theorem mem8(g:MC w0 w p hb tb sb m hp se F av n az cs q x k)(ho:q.op=2)(hk:MK w0 p hb tb m se n az q i k3):zfP (pt sb 0) w (pt p 0) (K4 tb hb k3 av i) [av,.int .i64 i]:=by
 obtain⟨s1,s2,s3⟩:=zpm g.sp (by omega);have mi:=g.J.fs.mi;have hsb:=g.hs;unfold MK at hk;rw[znL m i q (by omega)]at hk;unfold SM.Mem.openS at hk;simp only at hk;rw[if_neg (by omega),if_neg (by omega)]at hk;unfold zfP;simp(disch:=first|omega|(simp(disch:=first|omega|fail)only[go_sem,hsb]<;>omega)|fail)only[go_sem,hsb];have dat:∀y,y<m.nodes.length->(m.node y).data.length<=281474976710:=λy hy=>by have:=(g.inv.node hy).2.1;omega
 refine znp (w0:=w) (F0:=F) g.J.fs s2 mi.rt (sp2 s3 s2 ho) dat (λe1 e2 w' y h2 h3=>?_) (λe1 e2 w' y h2 h3=>?_) (λy e1 e2 w' f h2=>?_) λe1 e2 w' f h2=>?_
 ·rw[if_pos (by rw[e1,e2];rfl)]at hk;simp(disch:=first|omega|(simp(disch:=first|omega|fail)only[go_sem]<;>omega)|fail)only[go_sem];intro u;exact zbu g.J g.G g.hn g.ht g.htb (.inl h2) (λj=>rfl) (zc0 (by decide) h3) g.J.bel.size λw' av' cs' F'=>hk w' av' cs' F' hp
 ·rw[if_neg (by rw[e1];simp),if_pos (by rw[e1,e2];rfl)]at hk;simp(disch:=first|omega|(simp(disch:=first|omega|fail)only[go_sem]<;>omega)|fail)only[go_sem];intro u;exact zbu g.J g.G g.hn g.ht g.htb (.inl h2) (λj=>rfl) (zc0 (by decide) h3) g.J.bel.size λw' av' cs' F'=>hk w' av' cs' F' hp
 ·rw[if_neg (by rw[e2];simp),if_neg (by rw[e1];simp),e1]at hk;simp only[Option.isNone_some,Bool.false_eq_true,if_false]at hk;simp(disch:=first|omega|(simp(disch:=first|omega|fail)only[go_sem]<;>omega)|fail)only[go_sem];intro u;exact znw g.J g.G g.hn g.ht g.htb h2 (by unfold trn;split<;>rfl) λw' av' cs' F'=>hk w' av' cs' F' _
 ·rw[if_neg (by rw[e1];simp),if_neg (by rw[e2];simp),e1]at hk;simp only[Option.isNone_none,if_true]at hk;simp(disch:=first|omega|(simp(disch:=first|omega|fail)only[go_sem]<;>omega)|fail)only[go_sem];intro u;have hd:(((m.parents (norm q.name) 0).add (norm q.name) ⟨false,andI q.perm SM.zal,[],0,[]⟩).node (m.parents (norm q.name) 0).nodes.length).data=[]:=by obtain⟨p1,p2,p3,⟨x,p4,p5⟩,p6⟩:=SM.zeU 0 mi.root ((norm q.name).length+2) (norm q.name) mi.wf;have:=(SM.zfw (m:=m.parents (norm q.name) 0) p1 (norm q.name) ⟨false,andI q.perm SM.zal,[],0,[]⟩).2;rw[this]
  have e0:(if SM.has q.flag 1024=true then((((m.parents (norm q.name) 0).add (norm q.name) ⟨false,andI q.perm SM.zal,[],0,[]⟩).node (m.parents (norm q.name) 0).nodes.length).data.length:Int)else 0)=0:=by rw[hd];split<;>rfl
  rw[e0]at hk;exact znw g.J g.G g.hn g.ht g.htb h2 (by unfold trn;split<;>exact znu mi _ _ _) λw' av' cs' F'=>hk w' av' cs' F' _
theorem mem9(g:MC w0 w p hb tb sb m hp se F av n az cs q x k)(ho:q.op=3)(hk:MK w0 p hb tb m se n az q i k3):zfJ (pt sb 0) w (pt p 0) (K4 tb hb k3 av i) [av,.int .i64 i]:=by
 obtain⟨s1,s2,s3,s4⟩:=zfu g.sp (by omega);have mi:=g.J.fs.mi;have hsb:=g.hs;unfold MK at hk;rw[zdT m i q (by omega)]at hk;unfold SM.Mem.namesS at hk;simp only at hk;rw[if_neg (by omega),if_pos (by omega)]at hk;unfold SM.Mem.speaksNames at s4;simp only at s4;rw[if_neg (by rw[s3];simp),if_pos (by omega)]at s4;unfold zfJ;simp(disch:=first|omega|(simp(disch:=first|omega|fail)only[go_sem,hsb]<;>omega)|fail)only[go_sem,hsb];refine zm1 (w0:=w) (F0:=F) g.J.fs s3 (λe=>by rw[e]at s4;simpa using s4) (λe w' y h2 h3=>?_) λe w' h2=>?_
 ·rw[if_pos (by rw[e];simp[ho])]at hk;intro u;exact zbu g.J g.G g.hn g.ht g.htb (.inl h2) (λj=>rfl) (zc0 (by decide) h3) g.J.bel.size λw' av' cs' F'=>hk w' av' cs' F' hp
 ·rw[if_neg (by rw[e];simp),if_pos (by rw[e];rfl)]at hk;intro u;exact zbu g.J g.G g.hn g.ht g.htb (.inl h2) (zmb (znu mi _ _ _) hp) (ErrV.nil _ w.heap.size _) g.J.bel.size λw' av' cs' F'=>hk w' av' cs' F' hp
theorem mem10(g:MC w0 w p hb tb sb m hp se F av n az cs q x k)(ho:q.op=4)(hk:MK w0 p hb tb m se n az q i k3):ze9 (pt sb 0) w (pt p 0) (K4 tb hb k3 av i) [av,.int .i64 i]:=by
 obtain⟨s1,s2,s3,s4⟩:=zfu g.sp (by omega);have mi:=g.J.fs.mi;have hsb:=g.hs;unfold MK at hk;rw[zdT m i q (by omega)]at hk;unfold SM.Mem.namesS at hk;simp only at hk;rw[if_neg (by omega),if_pos (by omega),if_neg (by simp[ho])]at hk;unfold SM.Mem.speaksNames at s4;simp only at s4;rw[if_neg (by rw[s3];simp),if_pos (by omega)]at s4;unfold ze9;simp(disch:=first|omega|(simp(disch:=first|omega|fail)only[go_sem,hsb]<;>omega)|fail)only[go_sem,hsb];refine znC (w0:=w) (F0:=F) g.J.fs s3 (λe=>by rw[e]at s4;simpa using s4) (λe w' h2=>?_) λe w' h2=>?_
 ·rw[if_neg (by cases e':m.find (norm q.name)with|none=>rw[e']at e;cases e|some z=>simp)]at hk;intro u;exact zbu g.J g.G g.hn g.ht g.htb (.inl h2) (λj=>rfl) (ErrV.nil _ w.heap.size _) g.J.bel.size λw' av' cs' F'=>hk w' av' cs' F' hp
 ·rw[if_pos (by rw[e];rfl)]at hk;intro u;exact zbu g.J g.G g.hn g.ht g.htb (.inl h2) (zmb (znu mi _ _ _) hp) (ErrV.nil _ w.heap.size _) g.J.bel.size λw' av' cs' F'=>hk w' av' cs' F' hp
theorem memRm(g:MC w0 w p hb tb sb m hp se F av n az cs q x k)(ho:q.op=5)(hk:MK w0 p hb tb m se n az q i k3):Cl P Fn.aE #[pt p 0,S q.name] w λt98 w44=>K4 tb hb k3 av i [av,t98,.pointer none,.pointer none] w44:=by
 obtain⟨s1,s2,s3,s4⟩:=zfu g.sp (by omega);have mi:=g.J.fs.mi;unfold MK at hk;rw[zdT m i q (by omega)]at hk;unfold SM.Mem.namesS at hk;simp only at hk;rw[if_neg (by omega),if_neg (by omega),if_neg (by omega),if_neg (by omega)]at hk;unfold SM.Mem.speaksNames at s4;simp only at s4;rw[if_neg (by rw[s3];simp),if_neg (by omega),if_pos ho]at s4;simp only[Bool.and_eq_true,decide_eq_true_eq]at s4;refine zps (w0:=w) (F0:=F) g.J.fs s3 s4.1 s4.2 (λe w' y h2 h3=>?_) λe w' h2=>?_
 ·rw[e]at hk;intro u;exact zbu g.J g.G g.hn g.ht g.htb (.inl h2) (λj=>rfl) (zc0 (by decide) h3) g.J.bel.size λw' av' cs' F'=>hk w' av' cs' F' hp
 ·cases e':m.find (norm q.name)with
  |none=>rw[e']at e;cases e
  |some z=>rw[e']at hk;simp only[if_pos ho]at hk;intro u;exact zbu g.J g.G g.hn g.ht g.htb (.inl h2) (zmb (SM.zcp m _).2 hp) (ErrV.nil _ w.heap.size _) g.J.bel.size λw' av' cs' F'=>hk w' av' cs' F' hp
theorem memRa(g:MC w0 w p hb tb sb m hp se F av n az cs q x k)(ho:q.op=6)(hk:MK w0 p hb tb m se n az q i k3):Cl P Fn.aA #[pt p 0,S q.name] w λt98 w44=>K4 tb hb k3 av i [av,t98,.pointer none,.pointer none] w44:=by obtain⟨s1,s2,s3,s4⟩:=zfu g.sp (by omega);have mi:=g.J.fs.mi;unfold MK at hk;rw[zdT m i q (by omega)]at hk;unfold SM.Mem.namesS at hk;simp only at hk;rw[if_neg (by omega),if_neg (by omega),if_pos ho]at hk;unfold SM.Mem.speaksNames at s4;simp only at s4;rw[if_neg (by rw[s3];simp),if_neg (by omega),if_neg (by omega),if_pos ho]at s4;simp only[decide_eq_true_eq]at s4;have:=g.hk;refine zmH (w0:=w) (F0:=F) g.J.fs s3 s4 (by have:=g.inv.nn;omega) (λy hy=>by have:=g.inv.nl y hy;omega) λw' h2=>?_;intro u;exact zbu g.J g.G g.hn g.ht g.htb (.inl h2) (zmb (SM.zj5 _ mi.wf).2.2.2 hp) (ErrV.nil _ w.heap.size _) g.J.bel.size λw' av' cs' F'=>hk w' av' cs' F' hp
end
section
variable{w w' w0:World}{F0 F:Fp}{K:Value->World->Prop}{B p hb tb sb:Nat}{se:Nat->Nat×Nat}
 {m m':SM.Mem} {hp hp':Int->Nat} {av:Value} {n k:Nat} {az:List SM.Ans} {cs:List (List Value)} {q:SM.Stp} {x:Value} {i:Int}
 {k3:List Value->World->Prop}
set_option maxHeartbeats 1000000
theorem zsn(src dst:Str):∀(L:List Str)(m:SM.Mem),(L.foldl (λm n=>m.moved src dst n) m).hs=m.hs
 |[],m=>rfl
 |y::L,m=>by rw[List.foldl_cons,zsn src dst L];exact(zjj m src dst y 0).2.2.2.1
theorem zqH{m:SM.Mem}(h:SM.MI m none)(a b:Str):(m.renameS a b).1.hs=m.hs:=by
 unfold SM.Mem.renameS;split
 ·rfl
 ·split
  ·rfl
  ·simp only
   rw[zsn];obtain⟨p1,p2,p3,⟨x,p4,p5⟩,p6⟩:=SM.zeU 0 h.root (b.length+2) b h.wf;exact p6
theorem mem11(g:MC w0 w p hb tb sb m hp se F av n az cs q x k)(ho:q.op=7)(hk:MK w0 p hb tb m se n az q i k3):zeZ (pt sb 0) w (pt p 0) (K4 tb hb k3 av i) [av,.int .i64 i]:=by
 obtain⟨s1,s2,s3,s4⟩:=zfu g.sp (by omega);have mi:=g.J.fs.mi;have hsb:=g.hs;unfold MK at hk;rw[zdT m i q (by omega)]at hk;unfold SM.Mem.namesS at hk;simp only at hk;rw[if_neg (by omega),if_neg (by omega),if_neg (by omega),if_pos ho]at hk;unfold SM.Mem.speaksNames at s4;simp only at s4;rw[if_neg (by rw[s3];simp),if_neg (by omega),if_neg (by omega),if_neg (by omega),if_pos ho]at s4;simp only[Bool.and_eq_true,Bool.or_eq_true,decide_eq_true_eq,Bool.not_eq_true']at s4;obtain⟨s5,s6⟩:=s4;have hs6:norm q.name=norm q.other\/(norm q.name≠[47]/\norm q.other≠[47]/\SM.below (norm q.other) (norm q.name)=false/\m.isDir (norm q.other)=false/\m.clear (norm q.other)=true):=by
  rcases s6 with e|⟨⟨⟨⟨e1,e2⟩,e3⟩,e4⟩,e5⟩
  ·exact .inl e
  ·exact .inr ⟨e1,e2,e3,e4,e5⟩
 have:=g.hk;have hR:=zqH mi (norm q.name) (norm q.other);unfold zeZ;simp(disch:=first|omega|(simp(disch:=first|omega|fail)only[go_sem,hsb]<;>omega)|fail)only[go_sem,hsb];refine zov (w0:=w) (F0:=F) g.J.fs s3 s5 hs6 (by have:=g.inv.nn;omega) (λy hy=>by have:=g.inv.nl y hy;omega) (λe1 e2 w' y h2 h3=>?_) λe w' h2=>?_
 ·unfold SM.Mem.renameS at hk;rw[if_neg e1,if_pos (by rw[e2];rfl)]at hk;intro u;exact zbu g.J g.G g.hn g.ht g.htb h2 (λj=>rfl) (zc0 (by decide) h3) g.J.bel.size λw' av' cs' F'=>hk w' av' cs' F' hp
 ·have ea:(m.renameS (norm q.name) (norm q.other)).2=SM.Ans.z:=by
   unfold SM.Mem.renameS;by_cases c:norm q.name=norm q.other
   ·rw[if_pos c]
   ·have e:=e.resolve_left c;rw[if_neg c,if_neg (by cases e':m.find (norm q.name)with|none=>rw[e']at e;cases e|some z=>simp)]
  rw[ea]at hk;intro u;exact zbu g.J g.G g.hn g.ht g.htb h2 (zmb hR hp) (ErrV.nil _ w.heap.size _) g.J.bel.size λw' av' cs' F'=>hk w' av' cs' F' hp
theorem mem12(g:MC w0 w p hb tb sb m hp se F av n az cs q x k)(ho:q.op=8)(hk:MK w0 p hb tb m se n az q i k3):zfa (pt sb 0) w (pt p 0) (K4 tb hb k3 av i) [av,.int .i64 i]:=by
 obtain⟨s1,s2,s3,s4⟩:=zfu g.sp (by omega);have mi:=g.J.fs.mi;have hsb:=g.hs;unfold MK at hk;rw[zdT m i q (by omega)]at hk;unfold SM.Mem.namesS at hk;simp only at hk;rw[if_neg (by omega),if_neg (by omega),if_neg (by omega),if_neg (by omega)]at hk;unfold zfa;have:=g.hk;simp(disch:=first|omega|(simp(disch:=first|omega|fail)only[go_sem,hsb]<;>omega)|fail)only[go_sem,hsb];refine zrI (w0:=w) (F0:=F) g.J.fs (by omega) (λy hy=>(g.inv.node hy).2.2) (λy hy=>by have:=(g.inv.node hy).1;omega) (λe w' y h2 h3=>?_) λy fi w' e h2 h3 h4 h5=>?_
 ·rw[e]at hk;simp(disch:=first|omega|(simp(disch:=first|omega|fail)only[go_sem]<;>omega)|fail)only[go_sem];intro u;exact zbu g.J g.G g.hn g.ht g.htb (.inl h2) (λj=>rfl) (zc0 (by decide) h3) g.J.bel.size λw' av' cs' F'=>hk w' av' cs' F' hp
 ·rw[e]at hk;simp only at hk;rw[if_neg (by omega),if_pos ho]at hk;simp(disch:=first|omega|(simp(disch:=first|omega|fail)only[go_sem]<;>omega)|fail)only[go_sem];intro u;exact memInfo g.J g.G g.hn g.ht g.htb (.inl h2) h5 λw' av' cs' F'=>hk w' av' cs' F' hp
theorem mem13(g:MC w0 w p hb tb sb m hp se F av n az cs q x k)(ho:q.op=9)(hk:MK w0 p hb tb m se n az q i k3):ze8 (pt sb 0) w (pt p 0) (K4 tb hb k3 av i) [av,.int .i64 i]:=by
 obtain⟨s1,s2,s3,s4⟩:=zfu g.sp (by omega);have mi:=g.J.fs.mi;have hsb:=g.hs;unfold MK at hk;rw[zdT m i q (by omega)]at hk;unfold SM.Mem.namesS at hk;simp only at hk;unfold ze8;simp(disch:=first|omega|(simp(disch:=first|omega|fail)only[go_sem,hsb]<;>omega)|fail)only[go_sem,hsb];refine zqz (w0:=w) (F0:=F) g.J.fs (by omega) (λy hy=>(g.inv.node hy).2.2) (λe w' y h2 h3=>?_) λy w' e h2=>?_
 ·have hk':∀w' av' cs' F' hp',MJ w0 w' p hb m hp' se F'->MO9 w0 w' hb (·=tb) F' av' (n+1) (az++[SM.Ans.err 1]) cs'->k3 [av'] w':=by
   by_cases c:norm q.name=q.name
   ·rw[if_neg (by simp[c]),if_neg (by omega),if_neg (by omega),if_neg (by omega),c,e]at hk;exact hk
   ·rw[if_pos ⟨ho,c⟩]at hk;exact hk
  intro u;exact zbu g.J g.G g.hn g.ht g.htb (.inl h2) (λj=>rfl) (zc0 (by decide) h3) g.J.bel.size λw' av' cs' F'=>hk' w' av' cs' F' hp
 ·have c:=(SM.zc8 (mi.kp _ _ e)).1;rw[if_neg (by simp[c]),if_neg (by omega),if_neg (by omega),if_neg (by omega),c,e]at hk;simp only at hk;rw[if_neg (by omega),if_neg (by omega),if_pos ho]at hk;intro u;exact zbu g.J g.G g.hn g.ht g.htb (.inl h2) (λj=>rfl) (ErrV.nil _ w.heap.size _) g.J.bel.size λw' av' cs' F'=>hk w' av' cs' F' hp
theorem mem14(g:MC w0 w p hb tb sb m hp se F av n az cs q x k)(ho:q.op=10)(hk:MK w0 p hb tb m se n az q i k3):ze1 (pt sb 0) w (pt p 0) (K4 tb hb k3 av i) [av,.int .i64 i]:=by
 obtain⟨s1,s2,s3,s4⟩:=zfu g.sp (by omega);have mi:=g.J.fs.mi;have hsb:=g.hs;unfold MK at hk;rw[zdT m i q (by omega)]at hk;unfold SM.Mem.namesS at hk;simp only at hk;rw[if_neg (by omega),if_neg (by omega),if_neg (by omega),if_neg (by omega)]at hk;unfold ze1;simp(disch:=first|omega|(simp(disch:=first|omega|fail)only[go_sem,hsb]<;>omega)|fail)only[go_sem,hsb];refine zqA (w0:=w) (F0:=F) g.J.fs (by omega) (λe w' y h2 h3=>?_) λy w' e h2=>?_
 ·rw[e]at hk;intro u;exact zbu g.J g.G g.hn g.ht g.htb (.inl h2) (λj=>rfl) (zc0 (by decide) h3) g.J.bel.size λw' av' cs' F'=>hk w' av' cs' F' hp
 ·rw[e]at hk;simp only at hk;rw[if_neg (by omega),if_neg (by omega),if_neg (by omega),if_neg (by omega)]at hk;intro u;exact zbu g.J g.G g.hn g.ht g.htb (.inl h2) (λj=>rfl) (ErrV.nil _ w.heap.size _) g.J.bel.size λw' av' cs' F'=>hk w' av' cs' F' hp
theorem mem15(g:MC w0 w p hb tb sb m hp se F av n az cs q x k)(ho:q.op=11)(hk:MK w0 p hb tb m se n az q i k3):ze5 (pt sb 0) w (pt p 0) (K4 tb hb k3 av i) [av,.int .i64 i]:=by
 obtain⟨s1,s2,s3,s4⟩:=zfu g.sp (by omega);have mi:=g.J.fs.mi;have hsb:=g.hs;unfold MK at hk;rw[zdT m i q (by omega)]at hk;unfold SM.Mem.namesS at hk;simp only at hk;rw[if_neg (by omega),if_neg (by omega),if_neg (by omega),if_neg (by omega)]at hk;unfold ze5;simp(disch:=first|omega|(simp(disch:=first|omega|fail)only[go_sem,hsb]<;>omega)|fail)only[go_sem,hsb];refine zox (w0:=w) (F0:=F) g.J.fs (by omega) (λe w' y h2 h3=>?_) λy w' e h2=>?_
 ·rw[e]at hk;intro u;exact zbu g.J g.G g.hn g.ht g.htb (.inl h2) (λj=>rfl) (zc0 (by decide) h3) g.J.bel.size λw' av' cs' F'=>hk w' av' cs' F' hp
 ·rw[e]at hk;simp only at hk;rw[if_neg (by omega),if_neg (by omega),if_neg (by omega),if_pos ho]at hk;intro u;exact zbu g.J g.G g.hn g.ht g.htb (.inl h2) (λj=>rfl) (ErrV.nil _ w.heap.size _) g.J.bel.size λw' av' cs' F'=>hk w' av' cs' F' hp
end
theorem zom{α:Type}{l:SM.HM}{k:Int}{h:SM.Hnd}(h':SM.Hnd)(hk:SM.hget l k=some h)(f:Int->α)(j:Int):(SM.hget (SM.hput l k h') j).map (λ_=>f j)=(SM.hget l j).map λ_=>f j:=by
 rw[SM.zbP];by_cases e:j=k
 ·rw[if_pos e,e,hk];rfl
 ·rw[if_neg e]
theorem zqF{α:Type}{m:SM.Mem}{k:Int}{h:SM.Hnd}(s:SM.Stp)(hk:SM.hget m.hs k=some h)(hl:h.node<m.nodes.length)(f:Int->α)(j:Int):(SM.hget (m.fileS k h s).1.hs j).map (λ_=>f j)=(SM.hget m.hs j).map λ_=>f j:=by
 by_cases c:(m.node h.node).dir=true/\(s.op=19\/s.op=20)
 ·unfold SM.Mem.fileS;rw[if_neg (by omega),if_neg (by omega),if_neg (by omega),if_neg (by omega),if_pos c.2];unfold SM.Mem.listS;simp only
  rw[if_neg (by rw[c.1];simp)];exact zom _ hk f j
 ·rw[zno s hk hl λo=>by
   cases e:(m.node h.node).dir with
   |false=>rfl
   |true=>exact absurd ⟨e,o⟩ c]
  exact zom _ hk f j
section
variable{w w' w0:World}{F0 F:Fp}{K:Value->World->Prop}{B p hb tb sb:Nat}{se:Nat->Nat×Nat}
 {m m':SM.Mem} {hp hp':Int->Nat} {av:Value} {n k:Nat} {az:List SM.Ans} {cs:List (List Value)} {q:SM.Stp} {x:Value} {i:Int}
 {k3:List Value->World->Prop}
theorem MJ.afterI{s':PM.St}{mb':Nat}{rep':Nat->Rep}{ps':List Nat}(h:MJ w0 w p hb m hp se F)(h1:PT w F w' w0.heap.size p s' mb' rep' se)(r:PM.Rel s' m' ps' hp' [] none)(hm:∀j,(SM.hget m'.hs j).map (λ_=>pt (hp' j) 0)=(SM.hget m.hs j).map λ_=>pt (hp j) 0):MJ w0 w' p hb m' hp' se (fpOf p mb' s' rep')/\Kp w w' F.own/\∀b,b<w.heap.size->(fpOf p mb' s' rep').own b->F.own b:=by obtain⟨M,c,m1,m2,m3⟩:=h.map;have k:=h1.tr.kp;exact⟨⟨.inl ⟨s',mb',rep',ps',h1.rebase,r⟩,λb hb=>h1.pf.lt b hb,⟨λe=>h.hbn.1 ((h1.tr.st hb (zaj m1)).1 e),h.hbn.2⟩,⟨M,c,(k.block hb (zaj m1) h.hbn.1).trans m1,m2,λj=>by rw[m3,hm]⟩,h.bel.trans (k.below (λb hb e=>by have:=(h.own b e).1;omega) h.bel.size)⟩,k,λb hb=>(h1.tr.st b hb).1⟩
theorem ztr(w:World)(K:Value->World->Prop)(b:Nat)(k:Int):st P (za3 T.aQ (.map (some b)) (.int .i64 k) true) w K=optE (mlI (bk w b)) (λq=>K (tup [(mget q.1 k).getD (.pointer none),.bool (mget q.1 k).isSome]) w) (farK P (za3 T.aQ (.map (some b)) (.int .i64 k) true) w K):=luI w U.aA U.int (by kernel_rfl) K b k
set_option maxHeartbeats 1000000
theorem on_none{v:Value}(ho:q.op<12\/23<q.op)(hx:BS w x q.data)(hk:∀w',Below w.heap.size w w'->K (AG (zbq (SM.Ans.err 13) (.slice none 0 0) (.slice none 0 0) (.slice none 0 0))) w'):Cl P Fn.dw #[v,AG (zaC q x)] w K:=by
 apply zl9;unfold zkm;have one:=ze0 hx;simp(disch:=first|omega|(simp only[sZb,sZa,sZd]<;>omega)|(simp(disch:=first|omega|(simp only[sZb,sZa,sZd]<;>omega)|fail)only[go_sem,one];done)|fail)only[go_sem,zaN,zaL,zaJ,zaM,zaK,w_u8,zaI,Int.reduceToNat,Int.reducePow,Nat.reducePow,one];obtain⟨w1,ew1⟩:∃w1,w1=((w.alloc (CB (zaC q x) T.ae)).alloc (CB ansZ T.ab)).alloc (CB ansZ T.ab):=⟨_,rfl⟩;have b0:Below w.heap.size w w1:=by rw[ew1];repeat (first|exact Below.refl _ _|assumption|refine zag ?_ (by first|omega|(simp only[go_sem]<;>omega)) _|refine Below.alloc ?_ (by first|omega|(simp only[go_sem]<;>omega)) _|refine Below.drew ?_)
 have hbs:bk w1 w.heap.size=some (CB (zaC q x) T.ae):=by rw[ew1,zat _ _ _ (by simp only[go_sem];omega),zat _ _ _ (by simp only[go_sem];omega),zaf _ _ _ rfl]
 have b4:bk w1 (w.heap.size+1)=some (CB ansZ T.ab):=by rw[ew1,zat _ _ _ (by simp only[go_sem];omega),zaf _ _ _ (by simp only[go_sem])]
 have b5:bk w1 (w.heap.size+1+1)=some (CB ansZ T.ab):=by rw[ew1,zaf _ _ _ (by simp only[go_sem])]
 rw[zeJ (by rw[<-ew1];exact b5),<-ew1];have z1:w1.heap.size=w.heap.size+3:=by rw[ew1];simp only[go_sem]
 clear ew1;refine zaa (λ_ _=>False) (λ_ _ _ h=>h.elim) ?_;unfold zgt;simp(disch:=first|omega|(simp only[sZb,sZa,sZd]<;>omega)|(simp(disch:=first|omega|(simp only[sZb,sZa,sZd]<;>omega)|fail)only[go_sem];done)|fail)only[go_sem,zaN,zaL,zaJ,zaM,zaK,w_u8,zaI,Int.reduceToNat,Int.reducePow,Nat.reducePow];unfold zgE;simp(disch:=first|omega|(simp only[sZb,sZa,sZd]<;>omega)|(simp(disch:=first|omega|(simp only[sZb,sZa,sZd]<;>omega)|fail)only[go_sem];done)|fail)only[go_sem,zaN,zaL,zaJ,zaM,zaK,w_u8,zaI,Int.reduceToNat,Int.reducePow,Nat.reducePow];unfold zgB;simp(disch:=first|omega|(simp only[sZb,sZa,sZd]<;>omega)|(simp(disch:=first|omega|(simp only[sZb,sZa,sZd]<;>omega)|fail)only[go_sem];done)|fail)only[go_sem,zaN,zaL,zaJ,zaM,zaK,w_u8,zaI,Int.reduceToNat,Int.reducePow,Nat.reducePow];unfold zgL;simp(disch:=first|omega|(simp only[sZb,sZa,sZd]<;>omega)|(simp(disch:=first|omega|(simp only[sZb,sZa,sZd]<;>omega)|fail)only[go_sem];done)|fail)only[go_sem,zaN,zaL,zaJ,zaM,zaK,w_u8,zaI,Int.reduceToNat,Int.reducePow,Nat.reducePow];unfold zgk;simp(disch:=first|omega|(simp only[sZb,sZa,sZd]<;>omega)|(simp(disch:=first|omega|(simp only[sZb,sZa,sZd]<;>omega)|fail)only[go_sem];done)|fail)only[go_sem,zaN,zaL,zaJ,zaM,zaK,w_u8,zaI,Int.reduceToNat,Int.reducePow,Nat.reducePow];unfold zgw;simp(disch:=first|omega|(simp only[sZb,sZa,sZd]<;>omega)|(simp(disch:=first|omega|(simp only[sZb,sZa,sZd]<;>omega)|fail)only[go_sem];done)|fail)only[go_sem,zaN,zaL,zaJ,zaM,zaK,w_u8,zaI,Int.reduceToNat,Int.reducePow,Nat.reducePow];unfold zgp;simp(disch:=first|omega|(simp only[sZb,sZa,sZd]<;>omega)|(simp(disch:=first|omega|(simp only[sZb,sZa,sZd]<;>omega)|fail)only[go_sem];done)|fail)only[go_sem,zaN,zaL,zaJ,zaM,zaK,w_u8,zaI,Int.reduceToNat,Int.reducePow,Nat.reducePow];unfold zgM;simp(disch:=first|omega|(simp only[sZb,sZa,sZd]<;>omega)|(simp(disch:=first|omega|(simp only[sZb,sZa,sZd]<;>omega)|fail)only[go_sem];done)|fail)only[go_sem,zaN,zaL,zaJ,zaM,zaK,w_u8,zaI,Int.reduceToNat,Int.reducePow,Nat.reducePow];unfold ziE;simp(disch:=first|omega|(simp only[sZb,sZa,sZd]<;>omega)|(simp(disch:=first|omega|(simp only[sZb,sZa,sZd]<;>omega)|fail)only[go_sem];done)|fail)only[go_sem,zaN,zaL,zaJ,zaM,zaK,w_u8,zaI,Int.reduceToNat,Int.reducePow,Nat.reducePow];unfold zeO;simp(disch:=first|omega|(simp only[sZb,sZa,sZd]<;>omega)|(simp(disch:=first|omega|(simp only[sZb,sZa,sZd]<;>omega)|fail)only[go_sem];done)|fail)only[go_sem,zaN,zaL,zaJ,zaM,zaK,w_u8,zaI,Int.reduceToNat,Int.reducePow,Nat.reducePow];unfold ziS;simp(disch:=first|omega|(simp only[sZb,sZa,sZd]<;>omega)|(simp(disch:=first|omega|(simp only[sZb,sZa,sZd]<;>omega)|fail)only[go_sem,b4];done)|fail)only[go_sem,zaN,zaL,zaJ,zaM,zaK,w_u8,zaI,Int.reduceToNat,Int.reducePow,Nat.reducePow,b4];refine hk _ ?_;exact zag b0 (by omega) _
theorem zuh{s6:List Value}{u6:Env}{a:SM.Ans}{c:List Value}(J1:MJ w0 w p hb m hp se F)(G1:MO9 w0 w hb (·=tb) F av n az cs)(hn:n<=1000000)(b1:bk w tb=some (CB c T.ab))(A1:AnsN w w0.heap.size (λb=>F.own b\/b=hb\/av.ownBlock=some b\/b=tb) a c)
  (hk:∀w' av' cs' F',MJ w0 w' p hb m hp se F'->MO9 w0 w' hb (·=tb) F' av' (n+1) (az++[a]) cs'->k3 [av'] w'):zc9 (pt tb 0) [av,.int .i64 i] k3 s6 u6 w:=by
 have fin:=zug J1 G1 hn A1 hk;obtain⟨x,y,z,rfl,hx,hy,hz,_⟩:=A1;obtain⟨p1,c1,rfl⟩:=zay hx;obtain⟨p2,c2,rfl⟩:=zaX hy;obtain⟨p3,c3,rfl⟩:=zaX hz;unfold zc9;simp(disch:=first|omega|(simp(disch:=first|omega|fail)only[go_sem,b1]<;>omega)|fail)only[go_sem,b1];exact fin
theorem MJ.turn{c0 c:List Value}(J:MJ w0 w p hb m hp se F)(G:MO9 w0 w hb (·=tb) F av n az cs)(hb0:bk w tb=some (CB c0 T.ab))(htb:¬F.own tb/\w0.heap.size<=tb/\av.ownBlock≠some tb):
  ∃F1,MJ w0 (setb w tb (CB c T.ab)) p hb m hp se F1/\MO9 w0 (setb w tb (CB c T.ab)) hb (·=tb) F1 av n az cs/\(∀b,F1.own b->F.own b)/\bk (setb w tb (CB c T.ab)) tb=some (CB c T.ab)/\Kp w (setb w tb (CB c T.ab)) (·=tb):=by
 have lt:=zaj hb0;obtain⟨M,cc,m1,_,_⟩:=J.map;have nhb:tb≠hb:=λe=>by rw[<-e,hb0]at m1;cases m1
 have k1:=Kp.setb w tb (CB c T.ab);obtain⟨F1,J1,G1,f1⟩:=J.else_ G k1 (λb e _=>by rw[e];exact⟨htb.1,nhb,htb.2.1,htb.2.2,rfl⟩) λb e=>by rw[e];exact lt
 exact⟨F1,J1,G1,f1,zap _ _ _ _ rfl lt,k1⟩
theorem mem16{s6:List Value}{a:SM.Ans}{c:List Value}(J:MJ w0 w p hb m hp se F)(G:MO9 w0 w hb (·=tb) F av n az cs)(hn:n<=1000000)(hb0:bk w tb=some (CB ansZ T.ab))(htb:¬F.own tb/\w0.heap.size<=tb/\av.ownBlock≠some tb)(hA:AnsN w w0.heap.size (λb=>F.own b\/b=hb\/av.ownBlock=some b\/b=tb) a c)
  (hk:∀w' av' cs' F',MJ w0 w' p hb m hp se F'->MO9 w0 w' hb (·=tb) F' av' (n+1) (az++[a]) cs'->k3 [av'] w'):
  st P (zai T.ab (pt tb 0) (AG c)) w λ_ w2=>∀u6,zc9 (pt tb 0) [av,.int .i64 i] k3 s6 u6 w2:=by
 obtain⟨F1,J1,G1,f1,b1,k1⟩:=J.turn (c:=c) G hb0 htb;have A1:AnsN (setb w tb (CB c T.ab)) w0.heap.size (λb=>F1.own b\/b=hb\/av.ownBlock=some b\/b=tb) a c:=AnsN.to (hA.kp k1 λb _ _ hn e=>hn (.inr (.inr (.inr e)))) λb _ _ hn e=>by
  rcases e with e|e
  ·exact hn (.inl (f1 b e))
  ·exact hn (.inr e)
 have fin:=λu6=>zuh (s6:=s6) (u6:=u6) (i:=i) J1 G1 hn b1 A1 hk;obtain⟨x,y,z,rfl,hx,hy,hz,_⟩:=hA;obtain⟨p1,c1,rfl⟩:=zay hx;obtain⟨p2,c2,rfl⟩:=zaX hy;obtain⟨p3,c3,rfl⟩:=zaX hz;simp(disch:=first|omega|(simp(disch:=first|omega|fail)only[go_sem,hb0]<;>omega)|fail)only[go_sem,hb0];exact fin
theorem zp6(w:World)(lo:Nat)(N:Nat->Prop)(e:Int):AnsN w lo N (SM.Ans.err e) (zbq (SM.Ans.err e) (.slice none 0 0) (.slice none 0 0) (.slice none 0 0)):=⟨_,_,_,rfl,zb0 _,zaT _,zaT _,λb hb=>by rcases hb with h|h|h<;>cases h⟩
theorem mem17(g:MC w0 w p hb tb sb m hp se F av n az cs q x k)(ho:q.op<0\/11<q.op)(hk:MK w0 p hb tb m se n az q i k3):zeY (pt sb 0) w (.map (some hb)) (pt tb 0) [av,.int .i64 i] k3:=by
 have hsb:=g.hs;have hx:=g.hx;have one:=ze0 hx;have hgk:=g.hk;obtain⟨M,cc,m1,m2,m3⟩:=g.J.map;unfold MK at hk;unfold SM.Mem.doS at hk;rw[if_neg (by omega),if_neg (by omega)]at hk;have sp:=g.sp;unfold SM.Mem.speaks at sp;by_cases c0:400<q.name.length\/400<q.other.length\/4096<q.data.length
 ·rw[if_pos c0]at sp;cases sp
 rw[if_neg c0,if_neg (by omega),if_neg (by omega)]at sp;unfold zeY;simp(disch:=first|omega|(simp(disch:=first|omega|fail)only[go_sem,hsb]<;>omega)|fail)only[go_sem,hsb];rw[ztr,m1,ztS,zcZ,m3];cases e:SM.hget m.hs q.h with
 |none=>rw[e]at hk;simp only[Option.map_none,Option.getD_none,Option.isSome_none];have ht:=g.ht;obtain⟨F1,J1,G1,f1,b1,k1⟩:=g.J.turn (c:=zbq (SM.Ans.err 13) (.slice none 0 0) (.slice none 0 0) (.slice none 0 0)) g.G g.ht g.htb;simp(disch:=first|omega|(simp(disch:=first|omega|fail)only[go_sem]<;>omega)|fail)only[go_sem];refine zaG ?_;simp(disch:=first|omega|(simp(disch:=first|omega|fail)only[go_sem,ht]<;>omega)|fail)only[go_sem,ht];intro u;exact zuh J1 G1 g.hn b1 (zp6 _ _ _ _) λw' av' cs' F'=>hk w' av' cs' F' hp
 |some hd=>
  rw[e]at hk sp;simp only[Option.map_some,Option.getD_some,Option.isSome_some];simp(disch:=first|omega|(simp(disch:=first|omega|fail)only[go_sem]<;>omega)|fail)only[go_sem];refine zaG ?_;simp(disch:=first|omega|(simp(disch:=first|omega|fail)only[go_sem,hsb,one]<;>omega)|fail)only[go_sem,hsb,one];by_cases o3:q.op<12\/23<q.op
  ·simp only[if_pos o3]at hk;refine on_none o3 hx λw' B'=>?_;obtain⟨F1,J1,f1⟩:=g.J.old B';have lt:=zaj g.ht;exact mem16 (i:=i) (s6:=[]) J1 (g.G.old B' f1) g.hn ((zax B' lt).trans g.ht) ⟨λq=>g.htb.1 (f1 _ q),g.htb.2⟩ (zp6 w' w0.heap.size (λb=>F1.own b\/b=hb\/av.ownBlock=some b\/b=tb) 13) (λw' av' cs' F'=>hk w' av' cs' F' hp)
  ·simp only[if_neg o3]at hk;rcases g.J.fs with⟨s,mb,rep,ps,h,r⟩|h
   ·obtain⟨i1,i2,i3⟩:=g.inv.hd _ _ e;have nd:=g.inv.node i1;refine hstep h r e hx (by omega) sp (by omega) (by have:=g.inv.nn;omega) (λy hy=>(g.inv.node hy).2.2) (λy hy=>by have:=(g.inv.node hy).1;omega) nd.2.1 (by omega) i2.1 λw' c s' rep' h' r' A=>?_;obtain⟨J',K',hF⟩:=g.J.afterI h' r' (zqF q e i1 λj=>pt (hp j) 0);have lt:=zaj g.ht;have z:=K'.size;have z0:=g.J.bel.size;have lhb:=zaj m1;have A':AnsN w' w0.heap.size (λb=>(fpOf p mb s' rep').own b\/b=hb\/av.ownBlock=some b\/b=tb) (m.fileS q.h hd q).2 c:=by
     obtain⟨x1,y1,z1,a1,a2,a3,a4,a5⟩:=A;refine⟨x1,y1,z1,a1,a2,a3,a4,λb hb'=>?_⟩;obtain⟨l1,l2,l3⟩:=a5 b hb';refine⟨by omega,l2,λo=>?_⟩;rcases o with o|o|o|o
     ·exact l3 o
     ·omega
     ·have:=(zaW g.G.o b o).2;omega
     ·omega
    exact mem16 (i:=i) (s6:=[]) J' (g.G.after K' hF) g.hn ((K'.block tb lt g.htb.1).trans g.ht) ⟨λq=>g.htb.1 (hF _ lt q),g.htb.2⟩ A' (λw' av' cs' F'=>hk w' av' cs' F' hp)
   ·rw[h.m0]at e;cases e
end
end Go.Proofs.YtdljebgllipdjaaGreatDoor.X
end
section
namespace Go.X
open Go
namespace SM
structure Ent where
 name:Str
 mode:Int
 dir:Bool
 data:Str
 time:Int
 deriving DecidableEq
def Mem.ent(m:Mem)(q:Str)(x:Nat):Ent:=⟨q,(m.node x).mode,(m.node x).dir,(m.node x).data,(m.node x).time⟩
def Mem.tree(m:Mem):List Ent:=m.al.map λp=>m.ent p.1 p.2
theorem zqV{m:Mem}(h:Wf m):m.tree.map (·.name)=m.names:=by unfold Mem.tree;rw[List.map_map];have:((λx=>x.name)∘λp:Str×Nat=>m.ent p.1 p.2)=(·.1):=rfl;rw[this,h.al_names]
theorem zlD{m:Mem}(h:Wf m):m.tree.length=m.names.length:=by rw[<-zqV h,List.length_map]
theorem zkv{m:Mem}(h:Wf m)(e:Ent):e∈m.tree↔∃x,m.find e.name=some x/\e=m.ent e.name x:=by
 unfold Mem.tree;rw[List.mem_map];constructor
 ·rintro⟨⟨q,x⟩,hp,rfl⟩;exact⟨x,(zcL h q x).2 hp,rfl⟩
 ·rintro⟨x,h1,h2⟩;exact⟨(e.name,x),(zcL h _ x).1 h1,h2.symm⟩
theorem ztM{m:Mem}(h:Wf m){i:Nat}(hi:i<m.names.length):∃x,m.find m.names[i]=some x/\m.tree[i]'(by rw[zlD h];exact hi)=m.ent m.names[i] x:=by
 have ha:i<m.ats.length:=by rw[h.la];exact hi
 have hz:i<(m.names.zip m.ats).length:=by simp;omega
 refine⟨m.ats[i],(zcL h _ _).2 ?_,?_⟩
 ·show _∈m.names.zip m.ats;rw[List.mem_iff_getElem];exact⟨i,hz,by simp⟩
 ·unfold Mem.tree Mem.al;simp
def runM:Mem->Int->List Stp->Mem×List Ans
 |m,_,[]=>(m,[])
 |m,i,q::qs=>((runM (m.doS i q).1 (i+1) qs).1,(m.doS i q).2::(runM (m.doS i q).1 (i+1) qs).2)
def zbp:Mem->Int->List Stp->Bool
 |_,_,[]=>true
 |m,i,q::qs=>m.speaks q&&zbp (m.doS i q).1 (i+1) qs
theorem znT:∀(qs:List Stp)(m:Mem)(i:Int),(runM m i qs).2.length=qs.length
 |[],_,_=>rfl
 |q::qs,m,i=>by simp[runM,znT qs]
theorem znU:∀(a b:List Stp)(m:Mem)(i:Int),runM m i (a++b)=((runM (runM m i a).1 (i+a.length) b).1,(runM m i a).2++(runM (runM m i a).1 (i+a.length) b).2)
 |[],b,m,i=>by simp[runM]
 |q::a,b,m,i=>by simp only[List.cons_append,runM,znU a b];rw[show i+1+(a.length:Int)=i+((q::a).length:Int) by simp;omega]
theorem zj6:∀(a b:List Stp)(m:Mem)(i:Int),zbp m i (a++b)=(zbp m i a&&zbp (runM m i a).1 (i+a.length) b)
 |[],b,m,i=>by simp[runM,zbp]
 |q::a,b,m,i=>by simp only[List.cons_append,runM,zbp,zj6 a b];rw[show i+1+(a.length:Int)=i+((q::a).length:Int) by simp;omega,Bool.and_assoc]
end SM
end Go.X
end
section
namespace Go.Proofs.YtdljebgllipdjaaGreatDoor.X
open Go Go.X Go.Proofs Go.RowKit Go.X.PM Go.Lib
section
variable{w w' w0:World}{F0 F:Fp}{K:Value->World->Prop}{B p hb tb sb:Nat}{se:Nat->Nat×Nat}
 {m m':SM.Mem} {hp hp':Int->Nat} {av:Value} {n k:Nat} {az:List SM.Ans} {cs:List (List Value)} {q:SM.Stp} {x:Value} {i:Int}
 {k3:List Value->World->Prop}
set_option maxHeartbeats 1000000
theorem memAny(g:MC w0 w p hb tb sb m hp se F av n az cs q x k)(hk:MK w0 p hb tb m se n az q i k3):
  cd (.bool (decide (q.op=0))) (zd3 (pt sb 0) w (pt p 0) (K4 tb hb k3 av i) [av,.int .i64 i]) (ze2 (.int .i64 q.op) (pt sb 0) w (pt p 0) (K4 tb hb k3 av i) [av,.int .i64 i] (.map (some hb)) (pt tb 0) k3):=by
 have hsb:=g.hs;by_cases c:q.op=0
 ·simp(disch:=first|omega|(simp(disch:=first|omega|fail)only[go_sem]<;>omega)|fail)only[go_sem];exact mem6 g c hk
 simp(disch:=first|omega|(simp(disch:=first|omega|fail)only[go_sem]<;>omega)|fail)only[go_sem];unfold ze2;by_cases c:q.op=1
 ·simp(disch:=first|omega|(simp(disch:=first|omega|fail)only[go_sem]<;>omega)|fail)only[go_sem];exact mem7 g c hk
 simp(disch:=first|omega|(simp(disch:=first|omega|fail)only[go_sem]<;>omega)|fail)only[go_sem];unfold zhV;by_cases c:q.op=2
 ·simp(disch:=first|omega|(simp(disch:=first|omega|fail)only[go_sem]<;>omega)|fail)only[go_sem];exact mem8 g c hk
 simp(disch:=first|omega|(simp(disch:=first|omega|fail)only[go_sem]<;>omega)|fail)only[go_sem];unfold zh8;by_cases c:q.op=3
 ·simp(disch:=first|omega|(simp(disch:=first|omega|fail)only[go_sem]<;>omega)|fail)only[go_sem];exact mem9 g c hk
 simp(disch:=first|omega|(simp(disch:=first|omega|fail)only[go_sem]<;>omega)|fail)only[go_sem];unfold zhO;by_cases c:q.op=4
 ·simp(disch:=first|omega|(simp(disch:=first|omega|fail)only[go_sem]<;>omega)|fail)only[go_sem];exact mem10 g c hk
 simp(disch:=first|omega|(simp(disch:=first|omega|fail)only[go_sem]<;>omega)|fail)only[go_sem];unfold zh1;by_cases c:q.op=5
 ·simp(disch:=first|omega|(simp(disch:=first|omega|fail)only[go_sem,hsb]<;>omega)|fail)only[go_sem,hsb];exact memRm g c hk
 simp(disch:=first|omega|(simp(disch:=first|omega|fail)only[go_sem]<;>omega)|fail)only[go_sem];unfold zhU;by_cases c:q.op=6
 ·simp(disch:=first|omega|(simp(disch:=first|omega|fail)only[go_sem,hsb]<;>omega)|fail)only[go_sem,hsb];exact memRa g c hk
 simp(disch:=first|omega|(simp(disch:=first|omega|fail)only[go_sem]<;>omega)|fail)only[go_sem];unfold zh5;by_cases c:q.op=7
 ·simp(disch:=first|omega|(simp(disch:=first|omega|fail)only[go_sem]<;>omega)|fail)only[go_sem];exact mem11 g c hk
 simp(disch:=first|omega|(simp(disch:=first|omega|fail)only[go_sem]<;>omega)|fail)only[go_sem];unfold zhW;by_cases c:q.op=8
 ·simp(disch:=first|omega|(simp(disch:=first|omega|fail)only[go_sem]<;>omega)|fail)only[go_sem];exact mem12 g c hk
 simp(disch:=first|omega|(simp(disch:=first|omega|fail)only[go_sem]<;>omega)|fail)only[go_sem];unfold zhT;by_cases c:q.op=9
 ·simp(disch:=first|omega|(simp(disch:=first|omega|fail)only[go_sem]<;>omega)|fail)only[go_sem];exact mem13 g c hk
 simp(disch:=first|omega|(simp(disch:=first|omega|fail)only[go_sem]<;>omega)|fail)only[go_sem];unfold zh4;by_cases c:q.op=10
 ·simp(disch:=first|omega|(simp(disch:=first|omega|fail)only[go_sem]<;>omega)|fail)only[go_sem];exact mem14 g c hk
 simp(disch:=first|omega|(simp(disch:=first|omega|fail)only[go_sem]<;>omega)|fail)only[go_sem];unfold zhZ;by_cases c:q.op=11
 ·simp(disch:=first|omega|(simp(disch:=first|omega|fail)only[go_sem]<;>omega)|fail)only[go_sem];exact mem15 g c hk
 simp(disch:=first|omega|(simp(disch:=first|omega|fail)only[go_sem]<;>omega)|fail)only[go_sem];exact mem17 g (by omega) hk
theorem zqN(hk:K (pt w.heap.size 0) (w.alloc (CB [.map none] T.aL))):Cl P Fn.ci #[] w K:=by apply zjQ;unfold zf8;simp(disch:=first|omega|(simp(disch:=first|omega|fail)only[go_sem]<;>omega)|fail)only[go_sem];exact hk
theorem zj3{qs:List SM.Stp}{vs:List Value}{tv:Value}(hq:StepsAt w tv qs vs)(hql:qs.length<=60)(sn:Sn w w.heap.size se)(hsp:SM.zbp SM0 0 qs=true)
  (hk:∀w' p hb hp F av cs,MJ w w' p hb (SM.runM SM0 0 qs).1 hp se F->MO9 w w' hb (λ_=>False) F av qs.length (SM.runM SM0 0 qs).2 cs->Inv qs.length (SM.runM SM0 0 qs).1->K (tup [pt p 0,av]) w'):Cl P Fn.cS #[tv] w K:=by
 apply znM;unfold zko;rw[C.aU];refine zqN ?_;rw[mkI];obtain⟨w1,e1⟩:∃w1,w1=(w.alloc (CB [.map none] T.aL)).alloc (MO emI [] 0):=⟨_,rfl⟩;have B1:Below w.heap.size w w1:=by rw[e1];repeat (first|exact Below.refl _ _|assumption|refine zag ?_ (by first|omega|(simp only[go_sem]<;>omega)) _|refine Below.alloc ?_ (by first|omega|(simp only[go_sem]<;>omega)) _|refine Below.drew ?_)
 have z1:w1.heap.size=w.heap.size+2:=by rw[e1];simp only[go_sem]
 have bp:bk w1 w.heap.size=some (CB [.map none] T.aL):=by rw[e1,zat _ _ _ (by simp only[go_sem];omega),zaf _ _ _ rfl]
 have bm:bk w1 (w.heap.size+1)=some (MO emI [] 0):=by rw[e1,zaf _ _ _ (by simp only[go_sem])]
 have zz:(w.alloc (CB [.map none] T.aL)).heap.size=w.heap.size+1:=by simp only[go_sem]
 rw[<-e1,zz];clear e1;obtain⟨qa,qc,eq⟩:=hq.slice;refine zaG ?_;rw[eq,V.af,<-eq];clear eq;have J1:MJ w w1 w.heap.size (w.heap.size+1) SM0 (λ_=>0) se ⟨(·=w.heap.size),(·=w.heap.size)⟩:=by
  refine⟨.inr ⟨Nat.le_refl _,bp,rfl,Tr.refl _ _,sn.below B1⟩,λb hb=>?_,⟨λe=>?_,by omega⟩,⟨[],0,bm,MWF.nil 0,λj=>rfl⟩,B1⟩
  ·have:b=w.heap.size:=hb;omega
  ·have:w.heap.size+1=w.heap.size:=e;omega
 have G1:MO9 w w1 (w.heap.size+1) (λ_=>False) ⟨(·=w.heap.size),(·=w.heap.size)⟩ (.slice none 0 0) 0 [] []:=⟨zfC _ _ _ _,λb hb=>(by cases hb),rfl,⟨rfl,λi h1=>absurd h1 (by simp)⟩⟩;refine zaA (λt w'=>∃av cs m hp F az,∃i:Nat,t=[av,.int .i64 i]/\i<=qs.length/\MJ w w' w.heap.size (w.heap.size+1) m hp se F/\MO9 w w' (w.heap.size+1) (λ_=>False) F av i az cs/\Inv i m/\SM.zbp m i (qs.drop i)=true/\(SM.runM m i (qs.drop i)).1=(SM.runM SM0 0 qs).1/\az++(SM.runM m i (qs.drop i)).2=(SM.runM SM0 0 qs).2)
  (λt _=>qs.length - (RowKit.intOf (gs t 1)).toNat) ⟨.slice none 0 0,[],SM0,_,_,[],0,rfl,Nat.zero_le _,J1,G1,Inv.start,by simpa using hsp,by simp,by simp⟩ ?_
 rintro t e w3 ⟨av,cs,m,hp,F,az,i,rfl,hi,J3,G3,inv,hs3,hr1,hr2⟩;rw[gs1,gs0,oLss];by_cases g:(i:Int)<qs.length
 ·have hix:i<qs.length:=by omega
  have hiv:i<vs.length:=by rw[hq.1];exact hix
  simp(disch:=first|omega|(simp only[sZb,sZa,sZd]<;>omega)|(simp(disch:=first|omega|(simp only[sZb,sZa,sZd]<;>omega)|fail)only[go_sem];done)|fail)only[go_sem,zaN,zaL,zaJ,zaM,zaK,w_u8,zaI,Int.reduceToNat,Int.reducePow,Nat.reducePow];refine zaG ?_;intro u;unfold zia;rw[gs1];refine zaG ?_;rw[List.drop_eq_getElem_cons hix]at hs3 hr1 hr2;simp only[SM.zbp,SM.runM,Bool.and_eq_true]at hs3 hr1 hr2;obtain⟨okq,okr⟩:=hs3;have hq4:=hq.old J3.bel;obtain⟨b,o,hrow,hbl,ix⟩:=hq4.idx hix hiv;have hqi:=hq4.2.1 i hix hiv;generalize qs[i]=q at*;generalize vs[i]=x at*;have one:=ze0 hqi;rw[ix];simp(disch:=first|omega|(simp only[sZb,sZa,sZd]<;>omega)|(simp(disch:=first|omega|(simp only[sZb,sZa,sZd]<;>omega)|fail)only[go_sem,hrow,one];done)|fail)only[go_sem,zaN,zaL,zaJ,zaM,zaK,w_u8,zaI,Int.reduceToNat,Int.reducePow,Nat.reducePow,hrow,one];obtain⟨w6,e6⟩:∃w6,w6=setb ((setb (w3.alloc (CB [.int .i64 0,S [],S [],.int .i64 0,.int .i64 0,.int .i64 0,.slice none 0 0,.int .i64 0,.int .i64 0,.int .i64 0] T.ae)) w3.heap.size (CB (zaC q x) T.ae)).alloc (CB ansZ T.ab)) (w3.heap.size+1) (CB ansZ T.ab):=⟨_,rfl⟩;have B6:Below w3.heap.size w3 w6:=by rw[e6];repeat (first|exact Below.refl _ _|assumption|refine zag ?_ (by first|omega|(simp only[go_sem]<;>omega)) _|refine Below.alloc ?_ (by first|omega|(simp only[go_sem]<;>omega)) _|refine Below.drew ?_)
  have z6:w6.heap.size=w3.heap.size+2:=by rw[e6];simp only[go_sem]
  have b7:bk w6 w3.heap.size=some (CB (zaC q x) T.ae):=by rw[e6,zao _ _ _ _ (show w3.heap.size≠w3.heap.size+1 by omega),zat _ _ _ (by simp only[go_sem];omega)];exact zap _ _ _ _ rfl (by simp only[go_sem];omega)
  have b8:bk w6 (w3.heap.size+1)=some (CB ansZ T.ab):=by rw[e6];exact zap _ _ _ _ rfl (by simp only[go_sem];omega)
  rw[<-e6];clear e6;refine zaG ?_;obtain⟨F6,J6,f6⟩:=J3.old B6;have G6:=(G3.tz (Tz':=(·=w3.heap.size+1)) λb hb e=>by omega).old B6 f6;have zz:=J3.bel.size;have C:MC w w6 w.heap.size (w.heap.size+1) (w3.heap.size+1) w3.heap.size m hp se F6 av i az cs q x i:=⟨J6,G6,by omega,b8,⟨λe=>by have:=(J3.own _ (f6 _ e)).2;omega,by omega,λe=>by have:=(zaW G3.o _ e).2;omega⟩,b7,zcs hqi B6 (Nat.le_refl _),inv,by omega,okq⟩
  refine memAny C λw9 av9 cs9 F9 hp9 J9 G9=>?_;intro u;unfold zdL;simp(disch:=first|omega|(simp only[sZb,sZa,sZd]<;>omega)|(simp(disch:=first|omega|(simp only[sZb,sZa,sZd]<;>omega)|fail)only[go_sem];done)|fail)only[go_sem,zaN,zaL,zaJ,zaM,zaK,w_u8,zaI,Int.reduceToNat,Int.reducePow,Nat.reducePow];refine⟨⟨av9,cs9,(m.doS i q).1,hp9,F9,az++[(m.doS i q).2],i+1,rfl,by omega,J9,G9.tz (λb _ h=>h.elim),inv.step (by omega) okq i,by exact_mod_cast okr,by exact_mod_cast hr1,?_⟩,by simp only[gs1,RowKit.intOf];omega⟩;rw[List.append_assoc];exact_mod_cast hr2
 ·have:i=qs.length:=by omega
  subst this;simp(disch:=first|omega|(simp only[sZb,sZa,sZd]<;>omega)|(simp(disch:=first|omega|(simp only[sZb,sZa,sZd]<;>omega)|fail)only[go_sem];done)|fail)only[go_sem,zaN,zaL,zaJ,zaM,zaK,w_u8,zaI,Int.reduceToNat,Int.reducePow,Nat.reducePow];refine zaG ?_;intro u;unfold ziU;simp only[List.drop_length,SM.runM,List.append_nil]at hr1 hr2;rw[hr1]at J3 inv;rw[hr2]at G3;simp(disch:=first|omega|(simp only[sZb,sZa,sZd]<;>omega)|(simp(disch:=first|omega|(simp only[sZb,sZa,sZd]<;>omega)|fail)only[go_sem];done)|fail)only[go_sem,zaN,zaL,zaJ,zaM,zaK,w_u8,zaI,Int.reduceToNat,Int.reducePow,Nat.reducePow];exact hk _ _ _ _ _ _ _ J3 G3 inv
end
end Go.Proofs.YtdljebgllipdjaaGreatDoor.X
end
section
namespace Go.Proofs.YtdljebgllipdjaaGreatDoor.X
open Go Go.X Go.Proofs Go.RowKit
theorem zr3{α:Type}(f:α->List Value)(k:Nat):∀(l:List α)(i:Nat)(h:i<l.length),(∀x,(f x).length=k)->(((l.map f).flatten).drop (i*k)).take k=f l[i]
 |x::l,0,_,hf=>by simp only[List.map_cons,List.flatten_cons,Nat.zero_mul,List.drop_zero,List.getElem_cons_zero];rw[List.take_append_of_le_length (by rw[hf];omega),List.take_of_length_le (by rw[hf];omega)]
 |x::l,i+1,h,hf=>by simp only[List.map_cons,List.flatten_cons,List.getElem_cons_succ];rw[List.drop_append,List.drop_of_length_le (by rw[hf,Nat.succ_mul];omega),List.nil_append,hf,show(i+1)*k - k=i*k by rw[Nat.succ_mul];omega];exact zr3 f k l i (by simpa using h) hf
theorem znB{α:Type}(f:α->List Value)(k:Nat)(hf:∀x,(f x).length=k):∀l:List α,((l.map f).flatten).length=l.length*k
 |[]=>by simp
 |x::l=>by simp only[List.map_cons,List.flatten_cons,List.length_append,List.length_cons,hf,znB f k hf l,Nat.succ_mul];omega
section
variable{w w':World}{K:Value->World->Prop}
theorem AnsAt.idx{lo B n cap:Nat}{N:Nat->Prop}{az:List SM.Ans}{cs:List (List Value)}{a:Option Addr}(h:AnsAt w lo N az cs)(o:w.ownsRow B T.ab 6 (.slice a n cap) n (List.flatten cs))(hn:az.length=n){i:Nat}(hi:i<n):
  ∃b p,zaY (bk w b) p 6=some (cs[i]'(by rw[h.1,hn];exact hi))/\∀M:Value->Prop,pu P (zaO T.aK (.slice a n cap) (.int .i64 i)) M=M (pt b p):=by
 have hc:∀c∈cs,c.length=6:=λc hc=>by obtain⟨j,hj,rfl⟩:=List.getElem_of_mem hc;exact(zk8 (h.2 j hj (by rw[<-h.1];exact hj))).1
 have hl:cs.length=n:=by rw[h.1,hn]
 obtain⟨b,cap',cur,e,h1,h2,h3,h4,h5,h6⟩:=zcV o (by omega);injection e with e1 e2 e3;subst e1 e3;have fl:∀(l:List (List Value))(j:Nat)(hj:j<l.length),(∀c∈l,c.length=6)->(l.flatten.drop (j*6)).take 6=l[j]:=λl=>by
  induction l with
  |nil=>intro j hj;exact absurd hj (by simp)
  |cons c l ih=>
   intro j hj hh;have hc0:=hh c (List.mem_cons_self ..);cases j with
   |zero=>simp only[List.flatten_cons,Nat.zero_mul,List.drop_zero,List.getElem_cons_zero];rw[List.take_append_of_le_length (by omega),List.take_of_length_le (by omega)]
   |succ j=>simp only[List.flatten_cons,List.getElem_cons_succ];rw[List.drop_append,List.drop_of_length_le (by omega),List.nil_append,hc0,show(j+1)*6 - 6=j*6 by omega];exact ih j (by simpa using hj) λc hc=>hh c (List.mem_cons_of_mem _ hc)
 refine⟨b,i*6,?_,λM=>?_⟩
 ·rw[h4,zlr _ _ _ _ (by omega)];congr 1;rw[<-fl cs i (by omega) hc,<-h6,List.drop_take,List.take_take,Nat.min_eq_left (by omega)]
 ·show pu P (zaO T.aK (sl b 0 n cap) (.int .i64 i)) M=_;rw[zgg (size:=6) M U.ar (by kernel_rfl) (by omega) (by omega),Int.toNat_natCast,Nat.zero_add]
end
abbrev EV:=SM.Ent×Value
def entP(x:EV):List Value:=[S x.1.name,.int .i64 x.1.mode,.bool x.1.dir,x.2,.int .i64 x.1.time]
theorem zlz(x:EV):(entP x).length=5:=rfl
def EntS(w:World)(v:Value)(l:List EV):Prop:=(∀x∈l,BS w x.2 x.1.data)/\((l=[]/\∃a cap,v=.slice a 0 cap)\/∃b o cap,v=sl b o l.length cap/\b<w.heap.size/\∀i(h:i<l.length),zaY (bk w b) (o+i*5) 5=some (entP l[i]))
theorem EntS.old{w w':World}{v:Value}{l:List EV}(h:EntS w v l)(hb:Below w.heap.size w w'):EntS w' v l:=by
 refine⟨λx hx=>zcs (h.1 x hx) hb (Nat.le_refl _),?_⟩;rcases h.2 with h|⟨b,o,cap,h1,h2,h3⟩
 ·exact .inl h
 ·exact .inr ⟨b,o,cap,h1,Nat.lt_of_lt_of_le h2 hb.size,λi g=>by rw[zax hb h2];exact h3 i g⟩
theorem EntS.slice{w:World}{v:Value}{l:List EV}(h:EntS w v l):∃a cap,v=.slice a l.length cap:=by
 rcases h.2 with⟨h,a,cap,e⟩|⟨b,o,cap,e,_⟩
 ·exact⟨a,cap,by rw[e,h];rfl⟩
 ·exact⟨_,_,e⟩
theorem EntS.idx{w:World}{v:Value}{l:List EV}(h:EntS w v l){i:Nat}(hi:i<l.length):
  ∃b o,zaY (bk w b) o 5=some (entP l[i])/\b<w.heap.size/\∀L:Value->Prop,pu P (zaO T.aE v (.int .i64 i)) L=L (pt b o):=by
 rcases h.2 with⟨h,_⟩|⟨b,o,cap,rfl,hb,hr⟩
 ·rw[h]at hi;exact absurd hi (by simp)
 ·refine⟨b,o+i*5,hr i hi,hb,λL=>?_⟩;rw[zgg (size:=5) L U.am (by kernel_rfl) (by omega) (by omega),Int.toNat_natCast]
theorem EntS.nil(w:World)(a:Option Addr)(c:Nat):EntS w (.slice a 0 c) []:=⟨λx hx=>(by cases hx),.inl ⟨rfl,a,c,rfl⟩⟩
theorem zoM{w w':World}{S:Nat->Prop}{v:Value}{l:List UInt8}(h:BS w v l)(k:Kp w w' S)(hS:l=[]\/∀b,v.ownBlock=some b->¬S b):BS w' v l:=by
 rcases hS with e|hS
 ·subst e;obtain⟨a,cap,rfl⟩:=zay h;exact .inl ⟨rfl,_,_,rfl⟩
 ·exact zlc h k hS
theorem zrQ{w:World}{v:Value}{l:List UInt8}(h:BS w v l):l=[]\/∀k,v.ownBlock=some k->k<w.heap.size:=by
 rcases h with h|⟨b,o,cap,rfl,h2,h3,h4⟩
 ·exact .inl h.1
 ·refine .inr λk hk=>?_;injection hk with hk;rw[<-hk];exact h4
structure EntO(w:World)(B:Nat)(v:Value)(l:List EV):Prop where
 o:w.ownsRow B T.ar 5 v l.length ((l.map entP).flatten)
 bs:∀x∈l,BS w x.2 x.1.data
 dj:∀x∈l,x.1.data=[]\/∀b,x.2.ownBlock=some b->v.ownBlock≠some b
theorem EntO.nil(w:World)(B:Nat):EntO w B (.slice none 0 0) []:=⟨zfC _ _ _ _,λx hx=>(by cases hx),λx hx=>(by cases hx)⟩
theorem EntO.S{w:World}{B:Nat}{v:Value}{l:List EV}(h:EntO w B v l):EntS w v l:=by
 refine⟨h.bs,?_⟩;by_cases hn0:l.length=0
 ·obtain⟨a,cap,e⟩:=zan h.o;exact .inl ⟨List.length_eq_zero_iff.1 hn0,a,cap,by rw[e,hn0]⟩
 ·obtain⟨b,cap,cur,rfl,h1,h2,h3,h4,h5,h6⟩:=zcV h.o hn0;refine .inr ⟨b,0,cap,rfl,h3,λi hi=>?_⟩;rw[h4,zlr _ _ _ _ (by omega),Nat.zero_add,<-zr3 entP 5 l i hi zlz,<-h6,List.drop_take,List.take_take,Nat.min_eq_left (by omega)]
theorem EntO.kp{w w':World}{B:Nat}{v:Value}{l:List EV}{R:Nat->Prop}(h:EntO w B v l)(k:Kp w w' R)(h1:∀b,v.ownBlock=some b->¬R b)(h2:∀x∈l,x.1.data=[]\/∀b,x.2.ownBlock=some b->¬R b):EntO w' B v l:=⟨zbQ h.o k h1,λx hx=>zoM (h.bs x hx) k (h2 x hx),h.dj⟩
theorem EntO.old{w w':World}{B:Nat}{v:Value}{l:List EV}(h:EntO w B v l)(k:Below w.heap.size w w'):EntO w' B v l:=⟨zbf h.o k (Nat.le_refl _),λx hx=>zcs (h.bs x hx) k (Nat.le_refl _),h.dj⟩
section
variable{w:World}{L:Value->World->Prop}{B:Nat}
theorem entPut{v x:Value}{l:List EV}{e:SM.Ent}(h:EntO w B v l)(hn:l.length<=1000000)(hB:B<=w.heap.size)(hx:BS w x e.data)(hd:e.data=[]\/∀b,x.ownBlock=some b->v.ownBlock≠some b)
  (hk:∀v' w',EntO w' B v' (l++[(e,x)])->Kp w w' (λk=>v.ownBlock=some k)->(∀k,v'.ownBlock=some k->v.ownBlock=some k\/w.heap.size<=k)->Below B w w'->L v' w'):
  st P (zam T.aE 1 #[(0,AG (entP (e,x)))]) w λt w1=>st P (zac .append #[T.aE,T.aE] T.aE #[false,false] #[v,t]) w1 L:=by
 obtain⟨a,c,rfl⟩:=zay hx;have one:∀u∈entP (e,.slice a e.data.length c),u.oneCell'=true:=λu hu=>by simp only[entP,List.mem_cons,List.not_mem_nil,or_false]at hu;rcases hu with rfl|rfl|rfl|rfl|rfl<;>rfl
 rw[zbg (size:=5) (z:=AG (entP (⟨[],0,false,[],0⟩,.slice none 0 0))) _ _ U.am (by kernel_rfl) (by omega) (by omega) (l:=entP (e,.slice a e.data.length c)) rfl];have B1:Below w.heap.size w (w.alloc (CB (entP (e,.slice a e.data.length c)) T.ar)):=by repeat (first|exact Below.refl _ _|assumption|refine zag ?_ (by first|omega|(simp only[go_sem]<;>omega)) _|refine Below.alloc ?_ (by first|omega|(simp only[go_sem]<;>omega)) _|refine Below.drew ?_)
 have r1:bk (w.alloc (CB (entP (e,.slice a e.data.length c)) T.ar)) w.heap.size=some (CB (entP (e,.slice a e.data.length c)) T.ar):=zaf _ _ _ rfl;have z1:(w.alloc (CB (entP (e,.slice a e.data.length c)) T.ar)).heap.size=w.heap.size+1:=by simp only[go_sem]
 generalize w.alloc (CB (entP (e,.slice a e.data.length c)) T.ar)=w1 at*;have h1:=h.old B1;have lo:=zeS h1.o;refine zbK (size:=5) (bytes:=64) (z:=AG (entP (⟨[],0,false,[],0⟩,.slice none 0 0))) (m:=1) (news:=entP (e,.slice a e.data.length c)) U.am (by kernel_rfl) rfl (by omega) h1.o (.inl ⟨_,_,_,rfl,by rw[r1];rfl⟩) rfl one (by simp only[maxLen];omega) (by omega) (by omega) λsv' w2 o2 g2 l2=>?_;have K2:=Kp.of_grown g2;have z2:=K2.size;have K12:Kp w w2 (λk=>v.ownBlock=some k):=(Kp.of_below B1 _).trans K2 λ_ _ h=>h;have hv:∀k,sv'.ownBlock=some k->v.ownBlock=some k\/w.heap.size<=k:=λk hk=>by
  rcases l2 with h|h
  ·exact .inl (by rw[<-h];exact hk)
  ·rw[hk]at h;injection h with h;exact .inr (by omega)
 have dj':∀y∈l++[(e,(.slice a e.data.length c:Value))],y.1.data=[]\/∀b,y.2.ownBlock=some b->v.ownBlock≠some b:=λy hy=>by
  rcases List.mem_append.1 hy with q|q
  ·exact h.dj y q
  ·simp at q;rw[q];exact hd
 have bs':∀y∈l++[(e,(.slice a e.data.length c:Value))],BS w y.2 y.1.data:=λy hy=>by
  rcases List.mem_append.1 hy with q|q
  ·exact h.bs y q
  ·simp at q;rw[q];exact hx
 refine hk sv' w2 ⟨?_,λy hy=>zoM (bs' y hy) K12 ((dj' y hy).imp id λd b hb e=>d b hb e),λy hy=>?_⟩ K12 hv ((B1.mono hB).trans (K2.below (λk hk e=>by have:=(lo k e).1;omega) (by omega)))
 ·rw[List.map_append,List.flatten_append];simpa using o2
 ·rcases dj' y hy with q|q
  ·exact .inl q
  ·rcases zrQ (bs' y hy)with q2|q2
   ·exact .inl q2
   ·refine .inr λb hb e=>?_;rcases hv b e with z|z
    ·exact q b hb z
    ·have:=q2 b hb;omega
end
end Go.Proofs.YtdljebgllipdjaaGreatDoor.X
end
section
namespace Go.Proofs.YtdljebgllipdjaaGreatDoor.X
open Go Go.X Go.Proofs Go.RowKit Go.X.PM Go.Lib
section
variable{w w' w0:World}{F0 F:Fp}{K:Value->World->Prop}{B p hb mb:Nat}{se:Nat->Nat×Nat}{s:PM.St}{rep:Nat->Rep}{ps:List Nat}
 {m m':SM.Mem} {hp hp':Int->Nat} {k:Nat}
theorem zp0{C n size:Nat}{e:TypeId}{v:Value}{xs:List Value}(h:w.ownsRow C e size v n xs)(hB:B<=C):w.ownsRow B e size v n xs:=⟨h.1,h.2.imp id λ⟨g,cap,cur,h1,h2,h3⟩=>⟨g,cap,cur,h1,Nat.le_trans hB h2,h3⟩⟩
theorem zrN{fi:Nat}{i:SM.Info}(h:InfoAt w fi i)(hk:K (.bool i.dir) w):Cl P Fn.ao #[pt fi 0] w K:=by obtain⟨d,nm,a,n,c,md,dir,mode,mt,uid,gid,h1,h2,h3,h4,h5,rfl⟩:=h;apply zfp;unfold zcX;simp(disch:=first|omega|(simp(disch:=first|omega|fail)only[go_sem,h1,h2]<;>omega)|fail)only[go_sem,h1,h2];exact hk
theorem zqS{fi:Nat}{i:SM.Info}(h:InfoAt w fi i)(hk:K (.int .i64 i.time) w):Cl P Fn.aB #[pt fi 0] w K:=by obtain⟨d,nm,a,n,c,md,dir,mode,mt,uid,gid,h1,h2,h3,h4,h5,rfl⟩:=h;apply zei;unfold zcr;simp(disch:=first|omega|(simp(disch:=first|omega|fail)only[go_sem,h1,h2]<;>omega)|fail)only[go_sem,h1,h2];exact hk
theorem znO{q:Str}(h:PF w B p s mb rep)(hk:K (optP (s.g q)) w):Cl P Fn.aR #[pt p 0,S q] w K:=by apply zgW;unfold zc3;rw[C.ab];refine zaF h ?_;rw[h.look1];exact hk
theorem zmK{d:Nat}{n:PM.Nd}(h:PF w B p s mb rep)(hd:s.nd d=some n)(hk:K (rep d).v w):Cl P Fn.aU #[pt d 0] w K:=by apply zhk;unfold zdp;obtain⟨u,g,hb⟩:=(h.node d n hd).bd;obtain⟨a,c,ev⟩:=zan (h.node d n hd).own;simp(disch:=first|omega|(simp(disch:=first|omega|fail)only[go_sem,hb]<;>omega)|fail)only[go_sem,hb];rw[ev]at hk⊢;exact hk
theorem zmQ(h:FsT w F w B p m hp se)(hN:m.names.length<=900000)
  (hk:∀w' v s mb rep ps,PT w F w' B p s mb rep se->PM.Rel s m ps hp [] none->w'.ownsRow w.heap.size T.string 1 v m.names.length (m.names.map S)->Kp w w' F.own->(∀b,v.ownBlock=some b->¬Own p mb s rep b)->K v w'):Cl P Fn.aL #[pt p 0] w K:=by
 apply zge;unfold zcR;rw[C.ab];refine zcd h λw1 s mb rep ps h1 r1=>?_;obtain⟨M,c,m1,m2,m3⟩:=h1.pf.map;have wf:=r1.mi.wf;have key:∀q,(mget M q).isSome=true↔q∈m.names:=λq=>by rw[m3,r1.g];simp only[eg,Option.none_or,Option.isSome_map];exact(SM.zcn wf q).symm
 have hMl:M.length<=m.names.length:=by
  have:=zd2 (M.map (·.1)) m.names m2.keys λq hq=>by
   refine(key q).1 ?_;have:=zbr M q;cases e:mget M q with
   |none=>exact absurd hq (this.1 e)
   |some v=>rfl
  rw[List.length_map]at this;omega
 rw[C.aF];refine zi4 m1 m2 (by omega) λw2 v ys o2 srt ln mem B2=>?_;have:ys=m.names:=zfs (lt:=λa b:Str=>a<b) SM.zbb (λ_ _ _=>SM.zoQ) ys m.names srt wf.srt λa=>(mem a).trans (key a);subst this;exact hk _ _ _ _ _ _ (h1.old B2) r1 (zp0 o2 h1.tr.kp.size) (h1.old B2).tr.kp λb hb ho=>by have:=(h1.pf.lt b ho).2;have:=(zaW o2 b hb).1;omega
theorem zmt(h:FsT w F w B p m hp se)(inv:Inv k m)(hk70:k<=70)(hB:∀b,F.own b->b<w.heap.size)
  (hk:∀w' v vs,FsI w F w' B p m hp se->EntO w' w.heap.size v vs->vs.map (·.1)=m.tree->Kp w w' F.own->K v w'):Cl P Fn.dr #[pt p 0] w K:=by
 apply znF;unfold zkn;have hnn:=inv.nn;have wf:=h.mi.wf;refine zaG ?_;rw[C.aI];refine zmQ h (by omega) λw1 nv s mb rep ps h1 r1 o1 k1 nown=>?_;obtain⟨na,nc,env⟩:=zan o1;rw[env,V.ae,<-env];clear env;have z1:=k1.size;refine zaA (λt w'=>∃ov vs,∃i:Nat,t=[ov,.int .i64 i]/\i<=m.names.length/\PT w F w' B p s mb rep se/\w'.ownsRow w.heap.size T.string 1 nv m.names.length (m.names.map S)/\EntO w' w.heap.size ov vs/\vs.map (·.1)=m.tree.take i/\(∀b,ov.ownBlock=some b->w1.heap.size<=b)/\Below w1.heap.size w1 w')
  (λt _=>m.names.length - (RowKit.intOf (gs t 1)).toNat) ⟨.slice none 0 0,[],0,rfl,Nat.zero_le _,h1,o1,EntO.nil _ _,by simp,λb hb=>(by cases hb),Below.refl _ _⟩ ?_
 rintro t e w3 ⟨ov,vs,i,rfl,hi,h3,o3,E3,ev3,lo3,B3⟩;rw[gs1,gs0,oLss];by_cases g:(i:Int)<m.names.length
 ·have hix:i<m.names.length:=by omega
  simp(disch:=first|omega|(simp(disch:=first|omega|fail)only[go_sem]<;>omega)|fail)only[go_sem];refine zaG ?_;obtain⟨gb,nb,nlt,ix,ld⟩:=zjg o3 rfl hix;obtain⟨x,hx,tx⟩:=SM.ztM wf hix;rw[ix,ld w3 rfl];obtain⟨kk,g1,g2⟩:=Rel.node r1 hx rfl;have nd:=inv.node (wf.find_lt hx);intro u;refine znO h3.pf ?_;rw[g1];refine ziC h3 g2 nd.2.2 (by have:=nd.1;simp only;omega) λfi w4 h4 B4 f1 f2 hf=>?_;refine zm6 hf ?_;simp only
  rw[V.aj,zaI (by omega) (by omega)];refine zrN hf ?_;refine zmK h4.pf g2 ?_;have hbs:=zlJ (h4.pf.node _ _ g2).own;have z4:=B4.size;refine zii U.ab (by kernel_rfl) (zfC w4 w4.heap.size T.aJ 1) hbs (by simp only;omega) (Nat.le_refl _) λdv w5 o5 g5 l5=>?_;have B5:Below w4.heap.size w4 w5:=(Kp.of_grown g5).below (λk _ e=>by cases e) (Nat.le_refl _);refine zqS (hf.old B5) ?_;have z5:=B5.size;have z3:=B3.size;have dn:∀b,dv.ownBlock=some b->w4.heap.size<=b:=λb hb=>(zaW o5 b hb).1;have hbv:BS w5 dv (m.node x).data:=zlJ (by simpa using o5);have lo:=zeS E3.o;have B35:Below w3.heap.size w3 w5:=B4.trans (B5.mono z4);have E5:=E3.old B35;obtain⟨da,dc,edv⟩:=zay hbv;rw[edv];simp(disch:=first|omega|(simp(disch:=first|omega|fail)only[go_sem]<;>omega)|fail)only[go_sem];rw[<-edv];refine entPut (e:=m.ent m.names[i] x) (x:=dv) E5 (by have:=congrArg List.length ev3;rw[List.length_map,List.length_take]at this;omega) (by omega) hbv (.inr λb hb e=>by have:=dn b hb;have:=(lo b e).2;omega) λov' w6 E6 k6 l6 B6=>?_;have H5:=h4.old B5;have z6:=k6.size;have lov:∀b,ov.ownBlock=some b->w1.heap.size<=b/\b<w3.heap.size:=λb hb=>⟨lo3 b hb,(lo b hb).2⟩;have PT6:PT w F w6 B p s mb rep se:=H5.other k6 (λb ho e=>by have:=(h1.pf.lt b ho).2;have:=(lov b e).1;omega) λb e=>by have:=h1.pf.le;have:=(lov b e).1;omega
  have B16:Below w1.heap.size w1 w6:=(B3.trans (B35.mono z3)).trans (k6.below (λb hb e=>by have:=(lov b e).1;omega) (by omega));refine⟨⟨ov',_,i+1,rfl,by omega,PT6,zbQ (zbf o3 B35 (Nat.le_refl _)) k6 (λb hb e=>?_),E6,?_,λb hb=>?_,B16⟩,by simp only[gs1,RowKit.intOf];omega⟩
  ·have:=(zaW o1 b hb).2;have:=(lov b e).1;omega
  ·rw[List.map_append,ev3,List.take_succ_eq_append_getElem (by rw[SM.zlD wf];exact hix),tx];rfl
  ·rcases l6 b hb with e|e
   ·exact lo3 b e
   ·omega
 ·have:i=m.names.length:=by omega
  subst this;simp(disch:=first|omega|(simp(disch:=first|omega|fail)only[go_sem]<;>omega)|fail)only[go_sem];refine zaG ?_;intro u;rw[List.take_of_length_le (by rw[SM.zlD wf];exact Nat.le_refl _)]at ev3;exact hk _ _ _ ⟨s,mb,rep,ps,h3,r1⟩ E3 ev3 h3.tr.kp
theorem zou{qs:List SM.Stp}{vs:List Value}{tv:Value}(hq:StepsAt w tv qs vs)(hql:qs.length<=60)(sn:Sn w w.heap.size se)(hsp:SM.zbp SM0 0 qs=true)
  (hk:∀w' v es,EntO w' w.heap.size v es->es.map (·.1)=(SM.runM SM0 0 qs).1.tree->Below w.heap.size w w'->K v w'):Cl P Fn.ck #[tv] w K:=by
 apply zjA;unfold zgY;rw[C.aM];refine zj3 hq hql sn hsp λw1 p hb hp F av cs J G inv=>?_;simp(disch:=first|omega|(simp(disch:=first|omega|fail)only[go_sem]<;>omega)|fail)only[go_sem];have zz:=J.bel.size;refine zmt J.fs inv (by omega) (λb hb=>(J.own b hb).2) λw2 v es h2 E2 e2 k2=>?_;refine hk w2 v es ⟨zp0 E2.o zz,E2.bs,E2.dj⟩ e2 (J.bel.trans (k2.below (λb hb e=>by have:=(J.own b e).1;omega) zz))
theorem zmE{qs:List SM.Stp}{vs:List Value}{tv:Value}(hq:StepsAt w tv qs vs)(hql:qs.length<=60)(sn:Sn w w.heap.size se)(hsp:SM.zbp SM0 0 qs=true)
  (hk:∀w' v cs,w'.ownsRow w.heap.size T.ab 6 v qs.length (List.flatten cs)->AnsAt w' w.heap.size (λb=>v.ownBlock=some b) (SM.runM SM0 0 qs).2 cs->Below w.heap.size w w'->K v w'):Cl P Fn.cM #[tv] w K:=by
 apply zlf;unfold zh0;rw[C.aM];refine zj3 hq hql sn hsp λw1 p hb hp F av cs J G inv=>?_;simp(disch:=first|omega|(simp(disch:=first|omega|fail)only[go_sem]<;>omega)|fail)only[go_sem];exact hk w1 av cs G.o (G.ans.to λb _ _ hn e=>hn (.inr (.inr (.inl e)))) J.bel
end
end Go.Proofs.YtdljebgllipdjaaGreatDoor.X
end
section
namespace Go.Proofs.YtdljebgllipdjaaGreatDoor.X
open Go Go.X Go.Proofs Go.RowKit
theorem zpZ{m:SM.Mem}{s:SM.Stp}(sp:m.speaks s=true):s.name.length<=400/\s.other.length<=400/\s.data.length<=4096:=by
 unfold SM.Mem.speaks at sp;by_cases c0:400<s.name.length\/400<s.other.length\/4096<s.data.length
 ·rw[if_pos c0]at sp;cases sp
 ·omega
theorem zsj{m:SM.Mem}{s:SM.Stp}(sp:m.speaks s=true)(ho:s.op<0\/11<s.op){hd:SM.Hnd}(hg:SM.hget m.hs s.h=some hd)(h18:s.op<18):(-1099511627776<=s.off/\s.off<=1099511627776)/\s.n<=4096:=by
 have l:=zpZ sp;unfold SM.Mem.speaks at sp;rw[if_neg (by omega),if_neg (by omega),if_neg (by omega),hg]at sp;simp only at sp;unfold SM.Mem.speaksFile at sp;simp only at sp;rw[if_neg (by omega),if_neg (by omega)]at sp;by_cases c:((m.node hd.node).dir||decide (4096<s.data.length)||decide (s.n<0)||decide (4096<s.n)||decide (1099511627776<s.off)||decide (s.off< -1099511627776))=true
 ·rw[if_pos c]at sp;cases sp
 ·simp only[Bool.or_eq_true,decide_eq_true_eq]at c;omega
theorem sp_ren{m:SM.Mem}{s:SM.Stp}(sp:m.speaks s=true)(ho:s.op=7):norm s.name=norm s.other\/norm s.name≠[47]:=by
 have l:=zpZ sp;unfold SM.Mem.speaks at sp;rw[if_neg (by omega),if_neg (by omega),if_pos (by omega)]at sp;unfold SM.Mem.speaksNames at sp;simp only at sp;cases hn:SM.zbF s.name with
 |false=>rw[if_pos hn]at sp;cases sp
 |true=>
  rw[if_neg (by rw[hn];simp),if_neg (by omega),if_neg (by omega),if_neg (by omega),if_pos ho]at sp;simp only[Bool.and_eq_true,Bool.or_eq_true,decide_eq_true_eq,Bool.not_eq_true']at sp;rcases sp.2 with e|e
  ·exact .inl e
  ·exact .inr e.1.1.1.1
section
variable{w w':World}{K:Value->World->Prop}{B p k:Nat}{m:SM.Mem}{F:Fp}{s:SM.Stp}{v:Value}
theorem zsc(h:MemS w B p m F)(hB:B<=w.heap.size)(hv:BS w v s.data)(inv:Inv k m)(hk:k<=70)(sp:m.speaks s=true)(i:Int)(hK:zcx w B p F (m.doS i s) K):Cl P Fn.bX #[pt p 0,.int .i64 i,AG (zaC s v)] w K:=by
 obtain⟨l1,l2,l3⟩:=zpZ sp;by_cases o1:0<=s.op/\s.op<=2
 ·exact ztb h hB (zay hv) o1 l1 inv.rt (inv.mb (by omega)) (λn hn=>by have:=(inv.dl n hn).2;omega) i hK
 by_cases o2:3<=s.op/\s.op<=11
 ·exact ztB h (zay hv) o2 l1 l2 inv.rt inv.wf (inv.mb (by omega)) (λe=>sp_ren sp e) i hK
 ·refine zs7 h hv (inv.mb (by omega)) inv.hb (by omega) (λhd hg=>?_) i hK;exact inv.fb (by omega) (λe=>(zsj sp (by omega) hg e).1) (λe=>(zsj sp (by omega) hg e).2) l3 hd hg
theorem zgv:∀(qs:List SM.Stp)(m:SM.Mem)(i:Int),(∃q∈qs,400<q.name.length\/400<q.other.length\/4096<q.data.length)->SM.zbp m i qs=false
 |[],_,_,⟨q,hq,_⟩=>by cases hq
 |q::qs,m,i,⟨y,hy,hl⟩=>by
  simp only[SM.zbp];rcases List.mem_cons.1 hy with e|e
  ·subst e;have:m.speaks y=false:=by unfold SM.Mem.speaks;rw[if_pos hl]
   rw[this];rfl
  ·rw[zgv qs _ _ ⟨y,e,hl⟩,Bool.and_false]
theorem stepW(w3:World)(c:List Value):∃w4,w4=setb (w3.alloc (CB [.int .i64 0,S [],S [],.int .i64 0,.int .i64 0,.int .i64 0,.slice none 0 0,.int .i64 0,.int .i64 0,.int .i64 0] T.ae)) w3.heap.size (CB c T.ae)/\Below w3.heap.size w3 w4/\bk w4 w3.heap.size=some (CB c T.ae)/\w4.heap.size=w3.heap.size+1:=by
 refine⟨_,rfl,?_,?_,?_⟩
 ·repeat (first|exact Below.refl _ _|assumption|refine zag ?_ (by first|omega|(simp only[go_sem]<;>omega)) _|refine Below.alloc ?_ (by first|omega|(simp only[go_sem]<;>omega)) _|refine Below.drew ?_)
 ·exact zap _ _ _ _ rfl (by simp only[go_sem];omega)
 ·simp only[go_sem]
theorem zpe{qs:List SM.Stp}{vs:List Value}{tv:Value}(hq:StepsAt w tv qs vs)(hql:qs.length<=70)(hk:LkK w (SM.zbp SM0 0 qs) K):Cl P Fn.dq #[tv] w K:=by
 apply znH;unfold zkt;obtain⟨qa,qc,eq⟩:=hq.slice;refine zaa (λt w'=>Below w.heap.size w w'/\∀q∈qs,¬(400<q.name.length\/400<q.other.length\/4096<q.data.length)) ?_ ?_;rotate_left
 ·rw[eq,V.af,<-eq];clear eq;refine zaA (λt w'=>∃i:Nat,t=[.int .i64 i]/\i<=qs.length/\Below w.heap.size w w'/\∀q∈qs.take i,¬(400<q.name.length\/400<q.other.length\/4096<q.data.length)) (λt _=>qs.length - (RowKit.intOf (gs t 0)).toNat) ⟨0,rfl,Nat.zero_le _,Below.refl _ _,by simp⟩ ?_;rintro t e w3 ⟨i,rfl,hi,B3,ok3⟩;rw[gs0,oLss];by_cases g:(i:Int)<qs.length
  ·have hix:i<qs.length:=by omega
   have hiv:i<vs.length:=by rw[hq.1];exact hix
   simp(disch:=first|omega|(simp only[sZb,sZa,sZd]<;>omega)|(simp(disch:=first|omega|(simp only[sZb,sZa,sZd]<;>omega)|fail)only[go_sem];done)|fail)only[go_sem,zaN,zaL,zaJ,zaM,zaK,w_u8,zaI,Int.reduceToNat,Int.reducePow,Nat.reducePow];refine zaG ?_;intro u;unfold ziL;rw[gs0];have hq4:=hq.old B3;obtain⟨b,o,hrow,hbl,ix⟩:=hq4.idx hix hiv;have hqi:=hq4.2.1 i hix hiv;have ok4:(¬(400<qs[i].name.length\/400<qs[i].other.length\/4096<qs[i].data.length))->∀q∈qs.take (i+1),¬(400<q.name.length\/400<q.other.length\/4096<q.data.length):=λh q hq=>by
    rw[List.take_succ_eq_append_getElem hix]at hq;rcases List.mem_append.1 hq with e|e
    ·exact ok3 q e
    ·simp at e;rw[e];exact h
   have hin:qs[i]∈qs:=List.getElem_mem hix;generalize qs[i]=q at*;generalize vs[i]=x at*;obtain⟨xa,xc,rfl⟩:=zay hqi;refine zaG ?_;rw[ix];simp(disch:=first|omega|(simp only[sZb,sZa,sZd]<;>omega)|(simp(disch:=first|omega|(simp only[sZb,sZa,sZd]<;>omega)|fail)only[go_sem,hrow];done)|fail)only[go_sem,zaN,zaL,zaJ,zaM,zaK,w_u8,zaI,Int.reduceToNat,Int.reducePow,Nat.reducePow,hrow];obtain⟨w4,e4,B4,b4,z4⟩:=stepW w3 (zaC q (.slice xa q.data.length xc));rw[<-e4];clear e4;have B4':Below w.heap.size w w4:=B3.trans (B4.mono B3.size);by_cases c1:(400:Int)<q.name.length
   ·simp(disch:=first|omega|(simp only[sZb,sZa,sZd]<;>omega)|(simp(disch:=first|omega|(simp only[sZb,sZa,sZd]<;>omega)|fail)only[go_sem];done)|fail)only[go_sem,zaN,zaL,zaJ,zaM,zaK,w_u8,zaI,Int.reduceToNat,Int.reducePow,Nat.reducePow];have:=hk w4 B4';rw[zgv qs SM0 0 ⟨q,hin,by omega⟩]at this;exact this
   by_cases c2:(400:Int)<q.other.length
   ·simp(disch:=first|omega|(simp only[sZb,sZa,sZd]<;>omega)|(simp(disch:=first|omega|(simp only[sZb,sZa,sZd]<;>omega)|fail)only[go_sem,b4];done)|fail)only[go_sem,zaN,zaL,zaJ,zaM,zaK,w_u8,zaI,Int.reduceToNat,Int.reducePow,Nat.reducePow,b4];have:=hk w4 B4';rw[zgv qs SM0 0 ⟨q,hin,by omega⟩]at this;exact this
   by_cases c3:(4096:Int)<q.data.length
   ·simp(disch:=first|omega|(simp only[sZb,sZa,sZd]<;>omega)|(simp(disch:=first|omega|(simp only[sZb,sZa,sZd]<;>omega)|fail)only[go_sem,b4];done)|fail)only[go_sem,zaN,zaL,zaJ,zaM,zaK,w_u8,zaI,Int.reduceToNat,Int.reducePow,Nat.reducePow,b4];have:=hk w4 B4';rw[zgv qs SM0 0 ⟨q,hin,by omega⟩]at this;exact this
   simp(disch:=first|omega|(simp only[sZb,sZa,sZd]<;>omega)|(simp(disch:=first|omega|(simp only[sZb,sZa,sZd]<;>omega)|fail)only[go_sem,b4];done)|fail)only[go_sem,zaN,zaL,zaJ,zaM,zaK,w_u8,zaI,Int.reduceToNat,Int.reducePow,Nat.reducePow,b4];intro u;unfold zas;rw[gs0];simp(disch:=first|omega|(simp only[sZb,sZa,sZd]<;>omega)|(simp(disch:=first|omega|(simp only[sZb,sZa,sZd]<;>omega)|fail)only[go_sem];done)|fail)only[go_sem,zaN,zaL,zaJ,zaM,zaK,w_u8,zaI,Int.reduceToNat,Int.reducePow,Nat.reducePow];exact⟨⟨i+1,rfl,by omega,B4',ok4 (by omega)⟩,by simp only[gs0,RowKit.intOf];omega⟩
  ·have:i=qs.length:=by omega
   subst this;simp(disch:=first|omega|(simp only[sZb,sZa,sZd]<;>omega)|(simp(disch:=first|omega|(simp only[sZb,sZa,sZd]<;>omega)|fail)only[go_sem];done)|fail)only[go_sem,zaN,zaL,zaJ,zaM,zaK,w_u8,zaI,Int.reduceToNat,Int.reducePow,Nat.reducePow];refine zaG ?_;rw[List.take_length]at ok3;exact⟨B3,ok3⟩
 ·rintro t e w1 ⟨B1,ok⟩;unfold zix;rw[C.bP];have z1:=B1.size;refine zpd (B:=w.heap.size) z1 λw2 p F h2 u2 B2=>?_;have B12:=B1.trans (B2.mono z1);refine zaG ?_;rw[eq,V.af,<-eq];clear eq;refine zaA (λt w'=>∃m F,∃i:Nat,t=[.int .i64 i]/\i<=qs.length/\MemS w' w.heap.size p m F/\Inv i m/\Below w.heap.size w w'/\SM.zbp m i (qs.drop i)=SM.zbp SM0 0 qs) (λt _=>qs.length - (RowKit.intOf (gs t 0)).toNat) ⟨SM0,F,0,rfl,Nat.zero_le _,h2,Inv.start,B12,by simp⟩ ?_;rintro t e w3 ⟨m,F3,i,rfl,hi,h3,inv,B3,hs3⟩;rw[gs0,oLss];by_cases g:(i:Int)<qs.length
  ·have hix:i<qs.length:=by omega
   have hiv:i<vs.length:=by rw[hq.1];exact hix
   simp(disch:=first|omega|(simp only[sZb,sZa,sZd]<;>omega)|(simp(disch:=first|omega|(simp only[sZb,sZa,sZd]<;>omega)|fail)only[go_sem];done)|fail)only[go_sem,zaN,zaL,zaJ,zaM,zaK,w_u8,zaI,Int.reduceToNat,Int.reducePow,Nat.reducePow];refine zaG ?_;intro u;unfold ziR;rw[gs0];rw[List.drop_eq_getElem_cons hix]at hs3;simp only[SM.zbp]at hs3;have hq4:=hq.old B3;obtain⟨b,o,hrow,hbl,ix⟩:=hq4.idx hix hiv;have hqi:=hq4.2.1 i hix hiv;generalize qs[i]=q at*;generalize vs[i]=x at*;have one:=ze0 hqi;refine zaG ?_;rw[ix];simp(disch:=first|omega|(simp only[sZb,sZa,sZd]<;>omega)|(simp(disch:=first|omega|(simp only[sZb,sZa,sZd]<;>omega)|fail)only[go_sem,hrow,one];done)|fail)only[go_sem,zaN,zaL,zaJ,zaM,zaK,w_u8,zaI,Int.reduceToNat,Int.reducePow,Nat.reducePow,hrow,one];obtain⟨w4,e4,B4,b4,z4⟩:=stepW w3 (zaC q x);rw[<-e4];clear e4;have z3:=B3.size;have B4':Below w.heap.size w w4:=B3.trans (B4.mono z3);have h4:=h3.old B4;have hx4:=zcs hqi B4 (Nat.le_refl _);refine zaG ?_;refine zpi h4 (zay hx4) (inv.mb (by omega)) inv.hb λw5 B5=>?_;have h5:=h4.old B5;have z5:=B5.size;have B5':Below w.heap.size w w5:=B4'.trans (B5.mono (by omega));have b5:=(zax B5 (zaj b4)).trans b4;have hx5:=zcs hx4 B5 (Nat.le_refl _);cases hs:m.speaks q with
   |false=>rw[hs,Bool.false_and]at hs3;simp(disch:=first|omega|(simp only[sZb,sZa,sZd]<;>omega)|(simp(disch:=first|omega|(simp only[sZb,sZa,sZd]<;>omega)|fail)only[go_sem];done)|fail)only[go_sem,zaN,zaL,zaJ,zaM,zaK,w_u8,zaI,Int.reduceToNat,Int.reducePow,Nat.reducePow];have:=hk w5 B5';rw[<-hs3]at this;exact this
   |true=>rw[hs,Bool.true_and]at hs3;simp(disch:=first|omega|(simp only[sZb,sZa,sZd]<;>omega)|(simp(disch:=first|omega|(simp only[sZb,sZa,sZd]<;>omega)|fail)only[go_sem];done)|fail)only[go_sem,zaN,zaL,zaJ,zaM,zaK,w_u8,zaI,Int.reduceToNat,Int.reducePow,Nat.reducePow];intro u;unfold ziD;rw[gs0];simp(disch:=first|omega|(simp only[sZb,sZa,sZd]<;>omega)|(simp(disch:=first|omega|(simp only[sZb,sZa,sZd]<;>omega)|fail)only[go_sem,b5,one];done)|fail)only[go_sem,zaN,zaL,zaJ,zaM,zaK,w_u8,zaI,Int.reduceToNat,Int.reducePow,Nat.reducePow,b5,one];refine zsc h5 (by omega) hx5 inv (by omega) hs i λw6 F6 c h6 t6 a6=>?_;intro u;unfold zas;rw[gs0];simp(disch:=first|omega|(simp only[sZb,sZa,sZd]<;>omega)|(simp(disch:=first|omega|(simp only[sZb,sZa,sZd]<;>omega)|fail)only[go_sem];done)|fail)only[go_sem,zaN,zaL,zaJ,zaM,zaK,w_u8,zaI,Int.reduceToNat,Int.reducePow,Nat.reducePow];exact⟨⟨_,F6,i+1,rfl,by omega,h6,inv.step (by omega) hs i,B5'.trans (h5.below t6),by exact_mod_cast hs3⟩,by simp only[gs0,RowKit.intOf];omega⟩
  ·have:i=qs.length:=by omega
   subst this;simp(disch:=first|omega|(simp only[sZb,sZa,sZd]<;>omega)|(simp(disch:=first|omega|(simp only[sZb,sZa,sZd]<;>omega)|fail)only[go_sem];done)|fail)only[go_sem,zaN,zaL,zaJ,zaM,zaK,w_u8,zaI,Int.reduceToNat,Int.reducePow,Nat.reducePow];refine zaG ?_;intro u;unfold zaV;rw[List.drop_length]at hs3;have:=hk w3 B3;rw[<-hs3]at this;exact this
theorem zl6{qs:List SM.Stp}{vs:List Value}{tv:Value}(hq:StepsAt w tv qs vs)(hk:LkK w (decide (qs.length<=60)&&SM.zbp SM0 0 qs) K):Cl P Fn.dt #[tv] w K:=by
 apply znA;unfold zki;obtain⟨qa,qc,eq⟩:=hq.slice;rw[eq,V.af,<-eq];by_cases c:qs.length<=60
 ·have c':(qs.length:Int)<=60:=by omega
  simp(disch:=first|omega|(simp(disch:=first|omega|fail)only[go_sem]<;>omega)|fail)only[go_sem];refine zpe hq (by omega) λw1 B1=>?_;have:=hk w1 B1;rw[decide_eq_true c,Bool.true_and]at this;exact this
 ·have c':¬(qs.length:Int)<=60:=by omega
  simp(disch:=first|omega|(simp(disch:=first|omega|fail)only[go_sem]<;>omega)|fail)only[go_sem];have:=hk w (Below.refl _ _);rw[decide_eq_false c,Bool.false_and]at this;exact this
theorem entW(w3:World)(c:List Value):∃w4,w4=setb (w3.alloc (CB [S [],.int .i64 0,.bool false,.slice none 0 0,.int .i64 0] T.ar)) w3.heap.size (CB c T.ar)/\Below w3.heap.size w3 w4/\bk w4 w3.heap.size=some (CB c T.ar)/\w4.heap.size=w3.heap.size+1:=by
 refine⟨_,rfl,?_,?_,?_⟩
 ·repeat (first|exact Below.refl _ _|assumption|refine zag ?_ (by first|omega|(simp only[go_sem]<;>omega)) _|refine Below.alloc ?_ (by first|omega|(simp only[go_sem]<;>omega)) _|refine Below.drew ?_)
 ·exact zap _ _ _ _ rfl (by simp only[go_sem];omega)
 ·simp only[go_sem]
theorem oNeqB{L:Value->Prop}(cx cy:Bool)(x y:Bool):pu P (oBin .neq T.bool cx cy (.bool x) (.bool y)) L=L (.bool (x !=y)):=zca (by rw[zau,zik];simp only[Option.bind_some];have e2:binOp .neq T.bool (.bool x) (.bool y)=(do pure (.bool (!(<-Op.equal T.bool (.bool x) (.bool y))))):=rfl;have e3:rp P (Op.equal T.bool (.bool x) (.bool y))=some (decide (x=y)):=ztX U.bool;rw[e2,zau,e3];cases x<;>cases y<;>rfl)
theorem zth{v v':Value}{l l':List EV}(h:EntS w v l)(h':EntS w v' l')(he0:l.map (·.1)=l'.map (·.1))(hl:l.length<=1000000)(hd:∀x∈l,x.1.data.length<=281474976710656)(hk:LkK w true K):Cl P Fn.bE #[v,v'] w K:=by
 apply zkl;unfold zgi;obtain⟨a,c,ev⟩:=h.slice;obtain⟨a',c',ev'⟩:=h'.slice;have ln:l.length=l'.length:=by have:=congrArg List.length he0;simpa using this
 refine zaa (λt w'=>w'=w) ?_ ?_;rotate_left
 ·rw[ev,ev'];simp(disch:=first|omega|(simp(disch:=first|omega|fail)only[go_sem,ln]<;>omega)|fail)only[go_sem,ln]
 rintro t e w1 rfl;unfold zff;refine zaG ?_;rw[ev,V.ah,<-ev];refine zaA (λt w'=>∃i:Nat,t=[.int .i64 i]/\i<=l.length/\Below w1.heap.size w1 w') (λt _=>l.length - (RowKit.intOf (gs t 0)).toNat) ⟨0,rfl,Nat.zero_le _,Below.refl _ _⟩ ?_;rintro t e w3 ⟨i,rfl,hi,B3⟩;rw[gs0,oLss];by_cases g:(i:Int)<l.length
 ·have hix:i<l.length:=by omega
  have hix':i<l'.length:=by omega
  simp(disch:=first|omega|(simp(disch:=first|omega|fail)only[go_sem]<;>omega)|fail)only[go_sem];refine zaG ?_;intro u;unfold zfh;rw[gs0];have h3:=h.old B3;have h3':=h'.old B3;obtain⟨b,o,row,blt,ix⟩:=h3.idx hix;obtain⟨b',o',row',blt',ix'⟩:=h3'.idx hix';have he:l[i].1=l'[i].1:=by have:=congrArg (λz=>z[i]?) he0;simpa[hix,hix']using this
  have d1:=h3.1 _ (List.getElem_mem hix);have d2:=h3'.1 _ (List.getElem_mem hix');have dl:=hd _ (List.getElem_mem hix);unfold entP at row row';rw[<-he]at row' d2;generalize l[i].1=en at*;generalize l[i].2=x at*;generalize l'[i].2=x' at*;obtain⟨xa,xc,rfl⟩:=zay d1;obtain⟨xa',xc',rfl⟩:=zay d2;refine zaG ?_;rw[ix];simp(disch:=first|omega|(simp(disch:=first|omega|fail)only[go_sem,row]<;>omega)|fail)only[go_sem,row];obtain⟨w4,e4,B4,b4,z4⟩:=entW w3 [S en.name,.int .i64 en.mode,.bool en.dir,.slice xa en.data.length xc,.int .i64 en.time];rw[<-e4,ix'];clear e4;have row4:=row';rw[<-zax B4 blt']at row4;simp(disch:=first|omega|(simp(disch:=first|omega|fail)only[go_sem,row4]<;>omega)|fail)only[go_sem,row4];obtain⟨w5,e5,B5,b5,z5⟩:=entW w4 [S en.name,.int .i64 en.mode,.bool en.dir,.slice xa' en.data.length xc',.int .i64 en.time];rw[<-e5];clear e5;have b45:=(zax B5 (zaj b4)).trans b4;have z3:=B3.size;have B35:=B4.trans (B5.mono (by omega));have nS:∀L:Value->Prop,pu P (oBin .neq T.string false false (S en.name) (S en.name)) L=L (.bool false):=λL=>by simp(disch:=first|omega|(simp(disch:=first|omega|fail)only[go_sem,ne_eq,not_true_eq_false,decide_false]<;>omega)|fail)only[go_sem,ne_eq,not_true_eq_false,decide_false]
  have cx:∀L:Value->World->Prop,st P (zj8 T.ah T.string (.slice xa en.data.length xc)) w5 L=L (S en.data) w5:=λL=>zpM U.string U.ab U.aE (zcs d1 B35 (Nat.le_refl _));have cx':∀L:Value->World->Prop,st P (zj8 T.ah T.string (.slice xa' en.data.length xc')) w5 L=L (S en.data) w5:=λL=>zpM U.string U.ab U.aE (zcs d2 B35 (Nat.le_refl _));simp(disch:=first|omega|(simp(disch:=first|omega|fail)only[go_sem,b45,b5,ne_eq,not_true_eq_false,decide_false,cx,cx',oNeqB,bne_self_eq_false]<;>omega)|fail)only[go_sem,b45,b5,ne_eq,not_true_eq_false,decide_false,cx,cx',oNeqB,bne_self_eq_false];intro u;unfold zas;rw[gs0];simp(disch:=first|omega|(simp(disch:=first|omega|fail)only[go_sem]<;>omega)|fail)only[go_sem];exact⟨⟨i+1,rfl,by omega,B3.trans (B35.mono z3)⟩,by simp only[gs0,intOf];omega⟩
 ·have:i=l.length:=by omega
  subst this;simp(disch:=first|omega|(simp(disch:=first|omega|fail)only[go_sem]<;>omega)|fail)only[go_sem];refine zaG ?_;intro u;unfold zaV;exact hk w3 B3
end
end Go.Proofs.YtdljebgllipdjaaGreatDoor.X
end
section
namespace Go.X
open Go Go.RowKit Go.WideShapes Go.Deep
section
variable{H:Type}{enc:TypeId×Value->H}{P:Program}{W:World}
theorem zmV{t e:TypeId}{size fuel:Nat}{cs:List Value}{x:DataW H×List MemPlace}(ht:P.underlying t=some (.slice e))(hc:P.cellsOf e=size)(h0:0<size)(h:DataW.trod enc P W 0 (λ_=>true) true fuel t cs=some x):
  (∃a cap,cs=[.slice a 0 cap])\/∃b o n cap,cs=[sl b o n cap]/\n<=cap/\cap<=maxLen/\b<W.heap.size/\n≠0/\∃m,∀i,i<n->∃c y,zaY (bk W b) (o+i*size) size=some c/\DataW.trod enc P W 0 (λ_=>true) true m e c=some y:=by
 rcases open_slice ht h with⟨h1,_⟩|⟨a,n,cap,m,k,D,Pl,rfl,_,h2,h3,h4,_,h5⟩
 ·exact .inl ⟨none,0,h1⟩
 ·by_cases hn:n=0
  ·subst hn;exact .inl ⟨_,_,rfl⟩
  simp only[if_true]at h4;subst h4;obtain⟨c0,hc0,_⟩:=h5 0 (by omega);obtain⟨_,hl0,hg0⟩:=World.cells?_some hc0;rw[hc]at hl0;have h00:=hg0 0 (by omega);have hne:c0[0]?≠none:=by rw[List.getElem?_eq_getElem (by omega)];simp
  have hspot:a.spot=none:=by
   cases hs:a.spot with
   |none=>rfl
   |some s=>
    exfalso;have hs2:((a.add (0*P.cellsOf e)).add 0).spot=some s:=by rw[Nat.zero_mul];exact hs
    unfold World.cell? at h00;rw[hs2]at h00;split at h00
    ·simp at h00;rw[h00]at hl0;simp at hl0;omega
    ·exact hne h00.symm
  obtain⟨b,o,sp⟩:=a;simp only at hspot;subst hspot;have row:∀i,i<n->∃c y,zaY (bk W b) (o+i*size) size=some c/\DataW.trod enc P W 0 (λ_=>true) true k e c=some y:=λi hi=>by
   obtain⟨c,hc1,hc2⟩:=h5 i (by omega);obtain⟨_,hl,hg⟩:=World.cells?_some hc1;rw[hc]at hl hg;refine⟨c,_,?_,hc2⟩;have cell:∀j,j<size->za1 (bk W b) (o+i*size+j)=c[j]?:=λj hj=>by have:=hg j hj;rw[Addr.add_lit,Addr.add_lit,cell?_eq]at this;exact this
   have hz:=cell (size - 1) (by omega);have hlt:c[size - 1]?≠none:=by rw[List.getElem?_eq_getElem (by omega)];simp
   unfold za1 at hz;split at hz
   ·rename_i cc tt fz hb;rw[hb]at cell⊢;simp only[zaY];have hlast:o+i*size+(size - 1)<cc.size:=by refine Nat.lt_of_not_le λhle=>hlt ?_;rw[<-hz,Array.getElem?_eq_none hle]
    rw[if_pos (by omega)];congr 1;apply List.ext_getElem?;intro j;by_cases hj:j<size
    ·rw[List.getElem?_take_of_lt hj,List.getElem?_drop];have:cc[o+i*size+j]?=c[j]?:=cell j hj;rw[Array.getElem?_toList,this]
    ·rw[List.getElem?_eq_none (by simp;omega),List.getElem?_eq_none (by omega)]
   ·exact absurd hz.symm hlt
  refine .inr ⟨b,o,n,_,rfl,h2,h3,?_,hn,k,row⟩;obtain⟨c,y,hr,_⟩:=row 0 (by omega);obtain⟨c',t',fz,e1,_⟩:=za7 hr;exact zaj e1
theorem zlP{t e:TypeId}{fuel:Nat}{cs:List Value}{x:DataW H×List MemPlace}(ht:P.underlying t=some (.slice e))(he:P.underlying e=some (.int .u8))(hc:P.cellsOf e=1)(h:DataW.trod enc P W 0 (λ_=>true) true fuel t cs=some x):
  ∃v l,cs=[v]/\BS W v l/\l.length<=maxLen:=by
 rcases zmV ht hc (by omega) h with⟨a,cap,rfl⟩|⟨b,o,n,cap,rfl,h1,h2,h3,h4,m,h5⟩
 ·exact⟨_,[],rfl,.inl ⟨rfl,_,_,rfl⟩,by simp⟩
 ·have hx:∀i,i<n->∃z:UInt8,zaY (bk W b) (o+i) 1=some [byt z]:=λi hi=>by
   obtain⟨c,y,e1,e2⟩:=h5 i hi;obtain⟨q,rfl,_,e3⟩:=DataW.trod_int he e2;simp only[Lit.wf,Bool.and_eq_true,decide_eq_true_eq]at e3;have z0:0<=q:=e3.1;have z1:q<=255:=e3.2;refine⟨UInt8.ofNat q.toNat,?_⟩;rw[Nat.mul_one]at e1;rw[e1,byt];congr 3;simp
   omega
  have hlist:∃l:List UInt8,l.length=n/\∀i(hi:i<l.length),zaY (bk W b) (o+i) 1=some [byt l[i]]:=by refine⟨(List.range n).map λi=>match zaY (bk W b) (o+i) 1 with|some [.int _ q]=>UInt8.ofNat q.toNat|_=>0,by simp,λi hi=>?_⟩;obtain⟨z,hz⟩:=hx i (by simpa using hi);simp only[List.getElem_map,List.getElem_range,hz,byt];simp
  obtain⟨l,hl,hV⟩:=hlist;subst hl;refine⟨_,l,rfl,.inr ⟨b,o,cap,rfl,h1,?_,h3⟩,by omega⟩;have cell:∀i(hi:i<l.length),za1 (bk W b) (o+i)=some (byt l[i]):=λi hi=>by have hr:=hV i hi;obtain⟨c,tt,fz,e1,e2,e3⟩:=za7 hr;rw[e1];show c[o+i]?=_;have:=congrArg (·[0]?) e3;simp only[List.getElem?_take_of_lt (show 0<1 by omega),List.getElem?_drop,Nat.add_zero,Array.getElem?_toList]at this;simpa using this
  unfold rowB;have hlast:=hV (l.length - 1) (by omega);obtain⟨c,tt,fz,e1,e2,e3⟩:=za7 hlast;rw[e1]at cell⊢;simp only[zaY];have e2':o+(l.length - 1)+1<=c.size:=e2;rw[if_pos (by omega)];congr 1;apply List.ext_getElem?;intro i;by_cases hi:i<l.length
  ·rw[List.getElem?_take_of_lt hi,List.getElem?_drop,Array.getElem?_toList];have:c[o+i]?=some (byt l[i]):=cell i hi;rw[this];simp[hi]
  ·rw[List.getElem?_eq_none (by simp;omega),List.getElem?_eq_none (by simp;omega)]
end
end Go.X
end
section
namespace Go.Proofs.YtdljebgllipdjaaGreatDoor.X
open Go Go.X Go.Proofs Go.RowKit Go.WideShapes
abbrev i64(n:Int):Prop:=-9223372036854775808<=n/\n<=9223372036854775807
structure FitS(q:SM.Stp):Prop where
 op:i64 q.op
 flag:i64 q.flag
 perm:i64 q.perm
 h:i64 q.h
 off:i64 q.off
 wh:i64 q.wh
 n:i64 q.n
 name:q.name.length<=maxLen
 other:q.other.length<=maxLen
 data:q.data.length<=maxLen
section
variable{H:Type}{enc:TypeId×Value->H}{W:World}
theorem zhC{t:TypeId}{fuel:Nat}{cs:List Value}{x:DataW H×List MemPlace}(ht:P.underlying t=some (.int .i64))(h:DataW.trod enc P W 0 (λ_=>true) true fuel t cs=some x):∃n,cs=[.int .i64 n]/\i64 n:=by obtain⟨n,e,_,w⟩:=DataW.trod_int ht h;simp only[Lit.wf,Bool.and_eq_true,decide_eq_true_eq]at w;exact⟨n,e,w.1,w.2⟩
theorem zt3{t:TypeId}{fuel:Nat}{cs:List Value}{x:DataW H×List MemPlace}(ht:P.underlying t=some .string)(h:DataW.trod enc P W 0 (λ_=>true) true fuel t cs=some x):∃l,cs=[S l]/\l.length<=maxLen:=by obtain⟨s,e,_,w⟩:=DataW.trod_string ht h;exact⟨s.data.toList,e,w⟩
theorem zk4{β:Type}(R:Nat->β->Prop):∀(n:Nat),(∀i,i<n->∃b,R i b)->∃m:List β,m.length=n/\∀i(h:i<m.length),R i m[i]
 |0,_=>⟨[],rfl,λi h=>absurd h (by simp)⟩
 |n+1,h=>by
  obtain⟨m,e,hm⟩:=zk4 R n λi hi=>h i (by omega);obtain⟨b,hb⟩:=h n (by omega);refine⟨m++[b],by simp[e],λi hi=>?_⟩;by_cases q:i<m.length
  ·rw[List.getElem_append_left q];exact hm i q
  ·have:i=m.length:=by simp at hi;omega
   subst this;rw[List.getElem_append_right (by omega)];simp only[Nat.sub_self,List.getElem_cons_zero];rw[e];exact hb
theorem zr2{fuel:Nat}{c:List Value}{x:DataW H×List MemPlace}(h:DataW.trod enc P W 0 (λ_=>true) true fuel T.ae c=some x):∃(q:SM.Stp)(v:Value),c=zaC q v/\FitS q/\BS W v q.data:=by
 obtain⟨xs,n,_,_,hl,hlen,hf⟩:=DataW.trod_struct Tryz.underlying36 h;have hl:c.length=10:=hl
 match c,hl with
 |[c0,c1,c2,c3,c4,c5,c6,c7,c8,c9],_=>
  have g:∀i,i<10->∃y,xs[i]?=some y:=λi hi=>⟨xs[i]'(by rw[hlen];exact hi),List.getElem?_eq_getElem _⟩;obtain⟨y0,z0⟩:=g 0 (by omega);obtain⟨y1,z1⟩:=g 1 (by omega);obtain⟨y2,z2⟩:=g 2 (by omega);obtain⟨y3,z3⟩:=g 3 (by omega);obtain⟨y4,z4⟩:=g 4 (by omega);obtain⟨y5,z5⟩:=g 5 (by omega);obtain⟨y6,z6⟩:=g 6 (by omega);obtain⟨y7,z7⟩:=g 7 (by omega);obtain⟨y8,z8⟩:=g 8 (by omega);obtain⟨y9,z9⟩:=g 9 (by omega);obtain⟨n0,e0,w0⟩:=zhC U.int ((hf 0 _ rfl).trans z0);obtain⟨l1,e1,w1⟩:=zt3 U.string ((hf 1 _ rfl).trans z1);obtain⟨l2,e2,w2⟩:=zt3 U.string ((hf 2 _ rfl).trans z2);obtain⟨n3,e3,w3⟩:=zhC U.int ((hf 3 _ rfl).trans z3);obtain⟨n4,e4,w4⟩:=zhC U.int ((hf 4 _ rfl).trans z4);obtain⟨n5,e5,w5⟩:=zhC U.int ((hf 5 _ rfl).trans z5);obtain⟨v6,l6,e6,b6,w6⟩:=zlP U.ab U.aE (by kernel_rfl) ((hf 6 _ rfl).trans z6);obtain⟨n7,e7,w7⟩:=zhC U.aH ((hf 7 _ rfl).trans z7);obtain⟨n8,e8,w8⟩:=zhC U.int ((hf 8 _ rfl).trans z8);obtain⟨n9,e9,w9⟩:=zhC U.int ((hf 9 _ rfl).trans z9);replace e0:[c0]=[.int .i64 n0]:=e0;replace e1:[c1]=[S l1]:=e1;replace e2:[c2]=[S l2]:=e2;replace e3:[c3]=[.int .i64 n3]:=e3;replace e4:[c4]=[.int .i64 n4]:=e4;replace e5:[c5]=[.int .i64 n5]:=e5;replace e6:[c6]=[v6]:=e6;replace e7:[c7]=[.int .i64 n7]:=e7;replace e8:[c8]=[.int .i64 n8]:=e8;replace e9:[c9]=[.int .i64 n9]:=e9;obtain rfl:c0=.int .i64 n0:=by injection e0
  obtain rfl:c1=S l1:=by injection e1
  obtain rfl:c2=S l2:=by injection e2
  obtain rfl:c3=.int .i64 n3:=by injection e3
  obtain rfl:c4=.int .i64 n4:=by injection e4
  obtain rfl:c5=.int .i64 n5:=by injection e5
  obtain rfl:c6=v6:=by injection e6
  obtain rfl:c7=.int .i64 n7:=by injection e7
  obtain rfl:c8=.int .i64 n8:=by injection e8
  obtain rfl:c9=.int .i64 n9:=by injection e9
  exact⟨⟨n0,l1,l2,n3,n4,n5,l6,n7,n8,n9⟩,_,rfl,⟨w0,w3,w4,w5,w7,w8,w9,w1,w2,w6⟩,b6⟩
theorem open_steps{r:Reach}{b0:Nat}{v:Value}{d:DataW H}{p:List MemPlace}(hv:Value.okWide P W r b0 T.aw v)(h:DataW.Trod enc P W 0 (λ_=>true) true T.aw v d p):∃qs:List SM.Stp,(∃vs,StepsAt W v qs vs)/\(∀q∈qs,FitS q)/\qs.length<=maxLen:=by
 obtain⟨a,n,cap,rfl⟩:=okWide_slice U.aj hv;obtain⟨fuel,hf⟩:=h;have hf:DataW.trod enc P W 0 (λ_=>true) true fuel T.aw [.slice a n cap]=some (d,p):=hf;rcases zmV (size:=10) U.aj (by kernel_rfl) (by omega) hf with⟨a',cap',e⟩|⟨b,o,n',cap',e,h1,h2,h3,h4,m,h5⟩
 ·injection e with e;rw[e];exact⟨[],⟨[],rfl,(λi h1=>absurd h1 (by simp)),.inl ⟨rfl,a',cap',rfl⟩⟩,λq hq=>(by cases hq),by simp⟩
 ·injection e with e;rw[e];obtain⟨qs,hl,hq⟩:=zk4 (λi(q:SM.Stp×Value)=>zaY (bk W b) (o+i*10) 10=some (zaC q.1 q.2)/\FitS q.1/\BS W q.2 q.1.data) n' λi hi=>by obtain⟨c,y,e1,e2⟩:=h5 i hi;obtain⟨q,v,rfl,q1,q2⟩:=zr2 e2;exact⟨(q,v),e1,q1,q2⟩
  subst hl;refine⟨qs.map (·.1),⟨qs.map (·.2),by simp,λi h1 h2=>?_,.inr ⟨b,o,cap',by simp,h3,λi g1 g2=>?_⟩⟩,λq hm=>?_,by simp;omega⟩
  ·simp only[List.getElem_map];exact(hq i (by simpa using h1)).2.2
  ·simp only[List.getElem_map];exact(hq i (by simpa using g1)).1
  ·obtain⟨x,hx,rfl⟩:=List.mem_map.1 hm;obtain⟨i,hi,rfl⟩:=List.getElem_of_mem hx;exact(hq i hi).2.1
end
theorem Sn.mono{w:World}{B C:Nat}{m:Nat->Nat×Nat}(h:Sn w B m)(hC:B<=C):Sn w C m:=⟨λg hg=>⟨by have:=(h.at_ g hg).1;omega,(h.at_ g hg).2⟩,λg hg=>⟨by have:=(h.cell g hg).1;omega,(h.cell g hg).2⟩,h.inj⟩
theorem Sn.next{w w':World}{m:Nat->Nat×Nat}(h:Sn w w.heap.size m)(b:Below w.heap.size w w'):Sn w' w'.heap.size m:=(h.below b).mono b.size
theorem zqC{w:World}{K:Value->World->Prop}{q:SM.Stp}{v:Value}(hv:BS w v q.data)(hk:∀b w',Below w.heap.size w w'->K (.bool b) w'):Cl P Fn.dk #[AG (zaC q v)] w K:=by
 apply zmD;unfold zjx;have one:=ze0 hv;obtain⟨a,cap,hvv⟩:=zay hv;rw[zcJ];have h0:bk (w.alloc (CB (zaC q v) T.ae)) w.heap.size=some (CB (zaC q v) T.ae):=zaf _ _ _ rfl;have BB:Below w.heap.size w (w.alloc (CB (zaC q v) T.ae)):=Below.alloc (Below.refl _ _) (Nat.le_refl _) _;generalize w.alloc (CB (zaC q v) T.ae)=w1 at*;refine zaa (λt w'=>w'=w1) ?_ ?_
 ·rintro t e w2 rfl;refine zaa (λt w'=>w'=w2) ?_ ?_
  ·rintro t e w3 rfl;refine zaa (λt w'=>w'=w3) ?_ ?_
   ·rintro t e w4 rfl;exact hk _ _ BB
   ·by_cases c:(2147483647:Int)<q.data.length
    ·simp(disch:=first|omega|(simp(disch:=first|omega|fail)only[go_sem,h0,hvv]<;>omega)|fail)only[go_sem,h0,hvv];exact hk _ _ BB
    ·simp(disch:=first|omega|(simp(disch:=first|omega|fail)only[go_sem,h0,hvv]<;>omega)|fail)only[go_sem,h0,hvv]
  ·by_cases c:(2147483647:Int)<q.other.length
   ·simp(disch:=first|omega|(simp(disch:=first|omega|fail)only[go_sem,h0]<;>omega)|fail)only[go_sem,h0];exact hk _ _ BB
   ·simp(disch:=first|omega|(simp(disch:=first|omega|fail)only[go_sem,h0]<;>omega)|fail)only[go_sem,h0]
 ·by_cases c:(2147483647:Int)<q.name.length
  ·simp(disch:=first|omega|(simp(disch:=first|omega|fail)only[go_sem,h0]<;>omega)|fail)only[go_sem,h0];exact hk _ _ BB
  ·simp(disch:=first|omega|(simp(disch:=first|omega|fail)only[go_sem,h0]<;>omega)|fail)only[go_sem,h0]
theorem zqU{w:World}{K:Value->World->Prop}{v:Value}{qs:List SM.Stp}{vs:List Value}(h:StepsAt w v qs vs)(hk:∀b w',Below w.heap.size w w'->K (.bool b) w'):Cl P Fn.cI #[v] w K:=by
 apply zjC;unfold zgZ;obtain⟨a,cap,rfl⟩:=h.slice;by_cases c:(2147483647:Int)<qs.length
 ·refine zaa (λ_ _=>False) (λ_ _ _ h=>h.elim) ?_;simp(disch:=first|omega|(simp only[sZb,sZa,sZd]<;>omega)|(simp(disch:=first|omega|(simp only[sZb,sZa,sZd]<;>omega)|fail)only[go_sem];done)|fail)only[go_sem,zaN,zaL,zaJ,zaM,zaK,w_u8,zaI,Int.reduceToNat,Int.reducePow,Nat.reducePow];exact hk _ _ (Below.refl _ _)
 refine zaa (λt w'=>w'=w) ?_ (by simp(disch:=first|omega|(simp only[sZb,sZa,sZd]<;>omega)|(simp(disch:=first|omega|(simp only[sZb,sZa,sZd]<;>omega)|fail)only[go_sem];done)|fail)only[go_sem,zaN,zaL,zaJ,zaM,zaK,w_u8,zaI,Int.reduceToNat,Int.reducePow,Nat.reducePow]);rintro t e w1 rfl;refine zaa (λt w'=>Below w1.heap.size w1 w') ?_ ?_
 ·rintro t e w2 b2;exact hk _ _ b2
 simp(disch:=first|omega|(simp only[sZb,sZa,sZd]<;>omega)|(simp(disch:=first|omega|(simp only[sZb,sZa,sZd]<;>omega)|fail)only[go_sem];done)|fail)only[go_sem,zaN,zaL,zaJ,zaM,zaK,w_u8,zaI,Int.reduceToNat,Int.reducePow,Nat.reducePow];refine zaA (λt w'=>Below w1.heap.size w1 w'/\∃i:Nat,t=[.int .i64 i]/\i<=qs.length) (λt _=>qs.length - (RowKit.intOf (gs t 0)).toNat) ⟨Below.refl _ _,0,rfl,by omega⟩ ?_;rintro t e w2 ⟨b2,i,rfl,hi⟩;by_cases g:(i:Int)<qs.length
 ·have hix:i<qs.length:=by omega
  simp(disch:=first|omega|(simp only[sZb,sZa,sZd]<;>omega)|(simp(disch:=first|omega|(simp only[sZb,sZa,sZd]<;>omega)|fail)only[go_sem];done)|fail)only[go_sem,zaN,zaL,zaJ,zaM,zaK,w_u8,zaI,Int.reduceToNat,Int.reducePow,Nat.reducePow];refine zaa (λt w'=>t=[]/\w'=w2) ?_ ⟨rfl,rfl⟩;rintro t e w3 ⟨rfl,rfl⟩;have hiv:i<vs.length:=by rw[h.1];exact hix
  have hq2:=h.old b2;obtain⟨b,o,hrow,hb,ix⟩:=hq2.idx hix hiv;have hv:=hq2.2.1 i hix hiv;generalize qs[i]=q at*;generalize vs[i]=vq at*;have one:=ze0 hv;have z:=b2.size;refine zaa (λt w'=>t=[]/\Below w1.heap.size w1 w') ?_ ?_
  ·rintro t e w4 ⟨rfl,b4⟩;refine⟨⟨b4,i+1,rfl,by omega⟩,?_⟩;simp only[RowKit.intOf];omega
  ·simp(disch:=first|omega|(simp only[sZb,sZa,sZd]<;>omega)|(simp(disch:=first|omega|(simp only[sZb,sZa,sZd]<;>omega)|fail)only[go_sem,ix,hrow,one];done)|fail)only[go_sem,zaN,zaL,zaJ,zaM,zaK,w_u8,zaI,Int.reduceToNat,Int.reducePow,Nat.reducePow,ix,hrow,one];obtain⟨wA,hwA⟩:∃wA,wA=setb (w3.alloc (CB [.int .i64 0,S [],S [],.int .i64 0,.int .i64 0,.int .i64 0,.slice none 0 0,.int .i64 0,.int .i64 0,.int .i64 0] T.ae)) w3.heap.size (CB (zaC q vq) T.ae):=⟨_,rfl⟩;rw[<-hwA];have BA:Below w3.heap.size w3 wA:=by rw[hwA];repeat (first|exact Below.refl _ _|assumption|refine zag ?_ (by first|omega|(simp only[go_sem]<;>omega)) _|refine Below.alloc ?_ (by first|omega|(simp only[go_sem]<;>omega)) _|refine Below.drew ?_)
   refine zqC (zcs hv BA (Nat.le_refl _)) λbb w4 b4=>?_;have B4:=(b2.trans (BA.mono z)).trans (b4.mono (by have:=BA.size;omega));cases bb with
   |true=>simp(disch:=first|omega|(simp only[sZb,sZa,sZd]<;>omega)|(simp(disch:=first|omega|(simp only[sZb,sZa,sZd]<;>omega)|fail)only[go_sem];done)|fail)only[go_sem,zaN,zaL,zaJ,zaM,zaK,w_u8,zaI,Int.reduceToNat,Int.reducePow,Nat.reducePow];exact⟨trivial,B4⟩
   |false=>simp(disch:=first|omega|(simp only[sZb,sZa,sZd]<;>omega)|(simp(disch:=first|omega|(simp only[sZb,sZa,sZd]<;>omega)|fail)only[go_sem];done)|fail)only[go_sem,zaN,zaL,zaJ,zaM,zaK,w_u8,zaI,Int.reduceToNat,Int.reducePow,Nat.reducePow];exact hk _ _ B4
 ·have e1:i=qs.length:=by omega
  subst e1;simp(disch:=first|omega|(simp only[sZb,sZa,sZd]<;>omega)|(simp(disch:=first|omega|(simp only[sZb,sZa,sZd]<;>omega)|fail)only[go_sem];done)|fail)only[go_sem,zaN,zaL,zaJ,zaM,zaK,w_u8,zaI,Int.reduceToNat,Int.reducePow,Nat.reducePow];exact zaa (λ_ _=>False) (λ_ _ _ h=>h.elim) b2
def IntsAt(w:World)(v:Value)(l:List Int):Prop:=(l=[]/\∃a cap,v=.slice a 0 cap)\/∃b o cap,v=sl b o l.length cap/\b<w.heap.size/\∀i(hi:i<l.length),za1 (bk w b) (o+i)=some (.int .i64 l[i])
theorem IntsAt.slice{w:World}{v:Value}{l:List Int}(h:IntsAt w v l):∃a cap,v=.slice a l.length cap:=by
 rcases h with⟨rfl,a,cap,rfl⟩|⟨b,o,cap,rfl,_⟩
 ·exact⟨a,cap,rfl⟩
 ·exact⟨_,cap,rfl⟩
theorem IntsAt.at_{w:World}{v:Value}{l:List Int}(h:IntsAt w v l){tB tE:TypeId}(h2:P.underlying tB=some (.slice tE))(hs:(P.info? tE).map (·.size)=some 1){i:Nat}(hi:i<l.length):
  ∃b o cap,v=sl b o l.length cap/\za1 (bk w b) (o+i)=some (.int .i64 l[i])/\∀(L:Value->Prop),pu P (zaO tB (sl b o l.length cap) (.int .i64 i)) L=L (pt b (o+i)):=by
 rcases h with⟨rfl,_⟩|⟨b,o,cap,rfl,_,h3⟩
 ·exact absurd hi (by simp)
 ·refine⟨b,o,cap,rfl,h3 i hi,λL=>?_⟩;rw[zgg (size:=1) L h2 hs (by omega) (by omega)];rw[Int.toNat_natCast,Nat.mul_one]
theorem zrD{w:World}{B n:Nat}{sv:Value}{qs:List SM.Stp}{vs:List Value}(o:w.ownsRow B T.ae 10 sv n ((List.zipWith zaC qs vs).flatten))(hn:qs.length=n)(hv:vs.length=n)(hb:∀i(h1:i<qs.length)(h2:i<vs.length),BS w vs[i] qs[i].data):StepsAt w sv qs vs:=by
 refine⟨by omega,hb,?_⟩;by_cases hn0:n=0
 ·subst hn0;obtain⟨a,cap,rfl⟩:=zan o;exact .inl ⟨List.length_eq_zero_iff.1 hn,a,cap,rfl⟩
 ·obtain⟨b,cap,cur,rfl,h1,h2,h3,h4,h5,h6⟩:=zcV o hn0;refine .inr ⟨b,0,cap,by rw[hn],h3,λi g1 g2=>?_⟩;have fl:∀(qs:List SM.Stp)(vs:List Value)(j:Nat)(hj:j<qs.length)(hk:j<vs.length),((List.zipWith zaC qs vs).flatten.drop (j*10)).take 10=zaC qs[j] vs[j]:=λqs=>by
   induction qs with
   |nil=>intro vs j hj;exact absurd hj (by simp)
   |cons q qs ih=>
    intro vs j hj hk;cases vs with
    |nil=>exact absurd hk (by simp)
    |cons v vs=>
     cases j with
     |zero=>simp only[List.zipWith_cons_cons,List.flatten_cons,Nat.zero_mul,List.drop_zero,List.getElem_cons_zero];rw[List.take_append_of_le_length (by simp),List.take_of_length_le (by simp)]
     |succ j=>simp only[List.zipWith_cons_cons,List.flatten_cons,List.getElem_cons_succ];rw[List.drop_append,List.drop_of_length_le (by simp;omega),List.nil_append,show(zaC q v).length=10 from rfl,show(j+1)*10 - 10=j*10 by omega];exact ih vs j (by simpa using hj) (by simpa using hk)
  rw[h4,zlr _ _ _ _ (by omega),Nat.zero_add,<-fl qs vs i g1 g2,<-h6,List.drop_take,List.take_take,Nat.min_eq_left (by omega)]
end Go.Proofs.YtdljebgllipdjaaGreatDoor.X
end
section
namespace Go.Proofs.YtdljebgllipdjaaGreatDoor.X
open Go Go.X Go.Proofs Go.RowKit
section
variable{L:Value->Prop}
@[go_sem]theorem oEx5_0(a b c d e:Value):pu P (zae (tup [a,b,c,d,e]) 0) L=L a:=zhy rfl
@[go_sem]theorem oEx5_1(a b c d e:Value):pu P (zae (tup [a,b,c,d,e]) 1) L=L b:=zhy rfl
@[go_sem]theorem oEx5_2(a b c d e:Value):pu P (zae (tup [a,b,c,d,e]) 2) L=L c:=zhy rfl
@[go_sem]theorem oEx5_3(a b c d e:Value):pu P (zae (tup [a,b,c,d,e]) 3) L=L d:=zhy rfl
@[go_sem]theorem oEx5_4(a b c d e:Value):pu P (zae (tup [a,b,c,d,e]) 4) L=L e:=zhy rfl
end
theorem zrH{ob:Option Obj}{p n m:Nat}{l l':List Value}(h:zaY ob p n=some l)(h':zaY ob (p+n) m=some l'):zaY ob p (n+m)=some (l++l'):=by obtain⟨c,t,fz,rfl,h2,h3⟩:=za7 h;obtain⟨c',t',fz',e,h2',h3'⟩:=za7 h';injection e with e;injection e with e1 _ _;subst e1;simp only[zaY];rw[if_pos (by omega),<-h3,<-h3',List.take_add,List.drop_drop]
theorem zl3{ob:Option Obj}{k:Nat}:∀(ls:List (List Value))(o:Nat),ls≠[]->(∀i(h:i<ls.length),zaY ob (o+i*k) k=some ls[i])->zaY ob o (ls.length*k)=some ls.flatten
 |[],_,h,_=>absurd rfl h
 |[l],o,_,h=>by have:=h 0 (by simp);simpa using this
 |l::l2::r,o,_,h=>by
  have h0:=h 0 (by simp);have h1:=zl3 (l2::r) (o+k) (by simp) λi hi=>by have:=h (i+1) (by simpa using hi);rw[Nat.succ_mul]at this;rw[show o+k+i*k=o+(i*k+k) by omega];simpa using this
  have:=zrH (by simpa using h0) h1;rw[show(l::l2::r).length*k=k+(l2::r).length*k by simp[Nat.succ_mul];omega];exact this
theorem zrS:∀(qs:List SM.Stp)(vs:List Value),(∀v∈vs,v.oneCell'=true)->∀u∈(List.zipWith zaC qs vs).flatten,u.oneCell'=true
 |[],_,_,u,hu=>by simp at hu
 |_::_,[],_,u,hu=>by simp at hu
 |q::qs,v::vs,h,u,hu=>by
  simp only[List.zipWith_cons_cons,List.flatten_cons,List.mem_append]at hu;rcases hu with hu|hu
  ·have hv:=h v (List.mem_cons_self ..);simp only[zaC,List.mem_cons,List.not_mem_nil,or_false]at hu;rcases hu with rfl|rfl|rfl|rfl|rfl|rfl|rfl|rfl|rfl|rfl<;>first|rfl|exact hv
  ·exact zrS qs vs (λv hv=>h v (List.mem_cons_of_mem _ hv)) u hu
theorem zpr:∀(qs:List SM.Stp)(vs:List Value),vs.length=qs.length->((List.zipWith zaC qs vs).flatten).length=qs.length*10
 |[],_,_=>by simp
 |q::qs,[],h=>by simp at h
 |q::qs,v::vs,h=>by rw[List.zipWith_cons_cons,List.flatten_cons,List.length_append,zpr qs vs (by simpa using h),show(zaC q v).length=10 from rfl];simp only[List.length_cons];omega
theorem StepsAt.one{w:World}{v:Value}{qs:List SM.Stp}{vs:List Value}(h:StepsAt w v qs vs):∀v∈vs,v.oneCell'=true:=λv hv=>by obtain⟨i,hi,rfl⟩:=List.getElem_of_mem hv;obtain⟨a,c,e⟩:=zay (h.2.1 i (by rw[<-h.1];exact hi) hi);rw[e];rfl
theorem StepsAt.row{w:World}{v:Value}{qs:List SM.Stp}{vs:List Value}(h:StepsAt w v qs vs):RowS w v qs.length (List.zipWith zaC qs vs).flatten:=by
 rcases h.2.2 with⟨rfl,a,cap,rfl⟩|⟨b,o,cap,rfl,h1,h2⟩
 ·exact .inr ⟨rfl,by simp,a,cap,rfl⟩
 ·by_cases h0:qs=[]
  ·subst h0;exact .inr ⟨rfl,by simp,_,_,rfl⟩
  ·refine .inl ⟨b,o,cap,rfl,?_⟩;have l1:(List.zipWith zaC qs vs).length=qs.length:=by simp[h.1]
   have:=zl3 (ob:=bk w b) (k:=10) (List.zipWith zaC qs vs) o (λe=>h0 (List.length_eq_zero_iff.1 (by rw[<-l1,e];rfl))) λi hi=>by
    have i1:i<qs.length:=by omega
    rw[List.getElem_zipWith];exact h2 i i1 (by rw[h.1];exact i1)
   rw[l1]at this;rw[zpr qs vs h.1];exact this
section
variable{w:World}{K:Value->World->Prop}
theorem zks{w:World}{L:Value->World->Prop}{qs:List SM.Stp}{vs xs:List Value}{tv sv:Value}{B n:Nat}(o:w.ownsRow B T.ae 10 sv n xs)(hB:B<=w.heap.size)(hx:RowS w tv qs.length (List.zipWith zaC qs vs).flatten)(hl:vs.length=qs.length)(h1:∀v∈vs,v.oneCell'=true)(hn:n+qs.length<=2300000000)
  (hk:∀sv' w',w'.ownsRow B T.ae 10 sv' (n+qs.length) (xs++(List.zipWith zaC qs vs).flatten)->Below B w w'->w.heap.size<=w'.heap.size->Kp w w' (λk=>sv.ownBlock=some k)->L sv' w'):
  st P (zac .append #[T.aw,T.aw] T.aw #[false,false] #[sv,tv]) w L:=by
 have lo:=zeS o;refine zbK (size:=10) (bytes:=112) (z:=AG (zaC ⟨0,[],[],0,0,0,[],0,0,0⟩ (.slice none 0 0))) U.aj (by kernel_rfl) rfl (by omega) o hx (zpr qs vs hl) (zrS qs vs h1) (by simp only[maxLen];omega) (by omega) hB λsv' w2 o2 g2 l2=>?_;exact hk sv' w2 o2 (zhz o g2 hB) (Kp.of_grown g2).size (Kp.of_grown g2)
theorem row1{w:World}{g:Nat}{s:SM.Stp}{v:Value}(h:bk w g=some (CB (zaC s v) T.ae)):RowS w (sl g 0 1 1) [s].length (List.zipWith zaC [s] [v]).flatten:=.inl ⟨g,0,1,rfl,by rw[h];exact zlr _ _ _ _ (by simp)⟩
theorem zrJ{qs:List SM.Stp}{vs:List Value}{tv v:Value}{s:SM.Stp}(hq:StepsAt w tv qs vs)(hql:qs.length<=2200000000)(hv:BS w v s.data)
  (hk:∀w' sv,StepsAt w' sv (qs++[s]) (vs++[v])->Below w.heap.size w w'->K sv w'):Cl P Fn.dC #[tv,AG (zaC s v)] w K:=by
 apply zpg;unfold zmd;obtain⟨va,vc,ev⟩:=zay hv;have one:∀u∈[v],u.oneCell'=true:=λu hu=>by simp at hu;rw[hu,ev];rfl
 subst ev;simp(disch:=first|omega|(simp(disch:=first|omega|fail)only[go_sem]<;>omega)|fail)only[go_sem];obtain⟨w1,e1⟩:∃w1,w1=(w.alloc (CB (zaC s (.slice va s.data.length vc)) T.ae)).drew:=⟨_,rfl⟩;have B1:Below w.heap.size w w1:=by rw[e1];repeat (first|exact Below.refl _ _|assumption|refine zag ?_ (by first|omega|(simp only[go_sem]<;>omega)) _|refine Below.alloc ?_ (by first|omega|(simp only[go_sem]<;>omega)) _|refine Below.drew ?_)
 have z1:w1.heap.size=w.heap.size+1:=by rw[e1];simp only[go_sem]
 have b1:bk w1 w.heap.size=some (CB (zaC s (.slice va s.data.length vc)) T.ae):=by rw[e1];exact zaf _ _ _ rfl
 have ld:∀w',Below w1.heap.size w1 w'->hold P (zab T.ae (pt w.heap.size 0)) (AG (zaC s (.slice va s.data.length vc))) w':=λw' B=>by have b':=(zax B (zaj b1)).trans b1;simp(disch:=first|omega|(simp(disch:=first|omega|fail)only[go_sem,b']<;>omega)|fail)only[go_sem,b']
 have mk0:∀w2:World,w1.heap.size<=w2.heap.size->(w2.alloc (CB [] T.ae)).ownsRow w1.heap.size T.ae 10 (sl w2.heap.size 0 0 0) 0 []:=λw2 h=>zlT (zaf _ _ _ rfl) rfl h (Nat.zero_le _);have al:∀(w2:World)(c:List Value),Below w1.heap.size w1 w2->Below w1.heap.size w1 (w2.alloc (CB c T.ae))/\(w2.alloc (CB c T.ae)).heap.size=w2.heap.size+1:=λw2 c h=>⟨Below.alloc h (by have:=h.size;omega) _,by simp only[go_sem]⟩;have cp:∀w2,Below w1.heap.size w1 w2->RowS w2 tv qs.length (List.zipWith zaC qs vs).flatten:=λw2 h=>(hq.old (B1.trans (h.mono (by omega)))).row;have fin:∀w2 sv,w2.ownsRow w1.heap.size T.ae 10 sv (0+qs.length+[s].length) (([]++(List.zipWith zaC qs vs).flatten)++(List.zipWith zaC [s] [.slice va s.data.length vc]).flatten)->Below w1.heap.size w1 w2->K sv w2:=λw2 sv o B=>by
  have B2:=B1.trans (B.mono (by omega));refine hk w2 sv (zrD (B:=w1.heap.size) (n:=qs.length+1) ?_ (by simp) (by simp[hq.1]) λi h1 h2=>?_) B2
  ·rw[List.zipWith_append hq.1.symm,List.flatten_append];simpa using o
  ·by_cases hi:i<qs.length
   ·have hi':i<vs.length:=by rw[hq.1];exact hi
    rw[List.getElem_append_left hi,List.getElem_append_left hi'];exact zcs (hq.2.1 i hi hi') B2 (Nat.le_refl _)
   ·have:i=qs.length:=by simp at h1;omega
    subst this;have e:(vs++[Value.slice va s.data.length vc])[qs.length]=.slice va s.data.length vc:=by simp[<-hq.1]
    rw[e];simp only[List.getElem_concat_length];exact zcs hv B2 (Nat.le_refl _)
 have last:∀(w3:World)(g:Nat)(sv:Value),w1.heap.size<=w3.heap.size->Below w1.heap.size w1 w3->w3.ownsRow w1.heap.size T.ae 10 sv 0 []->bk w3 g=some (CB (zaC s (.slice va s.data.length vc)) T.ae)->g<w3.heap.size->sv.ownBlock≠some g->
   st P (zac .append #[T.aw,T.aw] T.aw #[false,false] #[sv,tv]) w3 λt7 w7=>st P (zac .append #[T.aw,T.aw] T.aw #[false,false] #[t7,sl g 0 1 1]) w7 λt10 w8=>K t10 w8:=λw3 g sv h1 B3 o3 r3 hg hne=>by
  refine zks o3 h1 (cp _ B3) hq.1 hq.one (by omega) λsv4 w4 o4 B4 z4 k4=>?_;refine zks o4 (by omega) (row1 ((k4.block g hg (λe=>hne e)).trans r3)) rfl one (by simp;omega) λsv5 w5 o5 B5 z5 k5=>fin w5 sv5 o5 (B3.trans (B4.trans B5))
 rw[<-e1];clear e1;have hvl:=hq.1;refine⟨?_,?_⟩
 ·rw[zbJ (n:=10) _ _ U.aj (by kernel_rfl)];obtain⟨B2,z2⟩:=al w1 [] (Below.refl _ _);refine⟨ld _ B2,?_,?_⟩
  ·refine zks (mk0 w1 (Nat.le_refl _)) (by omega) (cp _ B2) hvl hq.one (by omega) λsv3 w3 o3 B3 z3 k3=>⟨ld _ (B2.trans B3),?_⟩;rw[zbg (size:=10) (z:=AG (zaC ⟨0,[],[],0,0,0,[],0,0,0⟩ (.slice none 0 0))) _ _ U.aj (by kernel_rfl) (by omega) (by omega) (l:=zaC s (.slice va s.data.length vc)) rfl];obtain⟨B4,z4⟩:=al w3 (zaC s (.slice va s.data.length vc)) (B2.trans B3);have b34:Below w3.heap.size w3 (w3.alloc (CB (zaC s (.slice va s.data.length vc)) T.ae)):=by repeat (first|exact Below.refl _ _|assumption|refine zag ?_ (by first|omega|(simp only[go_sem]<;>omega)) _|refine Below.alloc ?_ (by first|omega|(simp only[go_sem]<;>omega)) _|refine Below.drew ?_)
   refine zks (zbf o3 b34 (Nat.le_refl _)) (by omega) (row1 (zaf _ _ _ rfl)) rfl one (by simp;omega) λsv5 w5 o5 B5 z5 k5=>fin w5 sv5 o5 (B4.trans B5)
  ·rw[zbg (size:=10) (z:=AG (zaC ⟨0,[],[],0,0,0,[],0,0,0⟩ (.slice none 0 0))) _ _ U.aj (by kernel_rfl) (by omega) (by omega) (l:=zaC s (.slice va s.data.length vc)) rfl];obtain⟨B3,z3⟩:=al (w1.alloc (CB [] T.ae)) (zaC s (.slice va s.data.length vc)) B2;have b23:Below (w1.alloc (CB [] T.ae)).heap.size (w1.alloc (CB [] T.ae)) ((w1.alloc (CB [] T.ae)).alloc (CB (zaC s (.slice va s.data.length vc)) T.ae)):=by repeat (first|exact Below.refl _ _|assumption|refine zag ?_ (by first|omega|(simp only[go_sem]<;>omega)) _|refine Below.alloc ?_ (by first|omega|(simp only[go_sem]<;>omega)) _|refine Below.drew ?_)
   have o3:=zbf (mk0 w1 (Nat.le_refl _)) b23 (Nat.le_refl _);have r3:bk ((w1.alloc (CB [] T.ae)).alloc (CB (zaC s (.slice va s.data.length vc)) T.ae)) (w1.alloc (CB [] T.ae)).heap.size=some (CB (zaC s (.slice va s.data.length vc)) T.ae):=zaf _ _ _ rfl;refine last _ _ _ (by omega) B3 o3 r3 (by omega) (λe=>?_);have e:w1.heap.size=(w1.alloc (CB [] T.ae)).heap.size:=Option.some.inj e;omega
 ·rw[zbg (size:=10) (z:=AG (zaC ⟨0,[],[],0,0,0,[],0,0,0⟩ (.slice none 0 0))) _ _ U.aj (by kernel_rfl) (by omega) (by omega) (l:=zaC s (.slice va s.data.length vc)) rfl];obtain⟨B2,z2⟩:=al w1 (zaC s (.slice va s.data.length vc)) (Below.refl _ _);rw[zbJ (n:=10) _ _ U.aj (by kernel_rfl)];obtain⟨B3,z3⟩:=al (w1.alloc (CB (zaC s (.slice va s.data.length vc)) T.ae)) [] B2;refine last _ _ _ (by omega) B3 (mk0 _ (by omega)) ?_ (by omega) (λe=>?_)
  ·rw[zat _ _ _ (by simp only[go_sem];omega)];exact zaf _ _ _ rfl
  ·have e:(w1.alloc (CB (zaC s (.slice va s.data.length vc)) T.ae)).heap.size=w1.heap.size:=Option.some.inj e;omega
abbrev ez:EV:=(⟨[],0,false,[],0⟩,.slice none 0 0)
abbrev ezC:List Value:=[S [],.int .i64 0,.bool false,.slice none 0 0,.int .i64 0]
theorem zoA{v:Value}{l:List EV}{nm:Str}(h:EntS w v l)(hl:l.length<=1000000)
  (hk:∀w',Below w.heap.size w w'->K (tup [AG (entP ((l.find? λe=>decide (e.1.name=nm)).getD ez)),.bool (l.find? λe=>decide (e.1.name=nm)).isSome]) w'):Cl P Fn.dh #[v,S nm] w K:=by
 apply zmG;unfold zju;obtain⟨a,c,ev⟩:=h.slice;simp(disch:=first|omega|(simp(disch:=first|omega|fail)only[go_sem]<;>omega)|fail)only[go_sem];obtain⟨w1,e1⟩:∃w1,w1=w.alloc (CB ezC T.ar):=⟨_,rfl⟩;have B1:Below w.heap.size w w1:=by rw[e1];repeat (first|exact Below.refl _ _|assumption|refine zag ?_ (by first|omega|(simp only[go_sem]<;>omega)) _|refine Below.alloc ?_ (by first|omega|(simp only[go_sem]<;>omega)) _|refine Below.drew ?_)
 have z1:w1.heap.size=w.heap.size+1:=by rw[e1];simp only[go_sem]
 have b1:bk w1 w.heap.size=some (CB ezC T.ar):=by rw[e1];exact zaf _ _ _ rfl
 rw[<-e1];clear e1;refine zaG ?_;rw[ev,V.ah,<-ev];refine zaA (λt w'=>∃i:Nat,t=[.int .i64 i]/\i<=l.length/\Below w1.heap.size w1 w'/\(l.find? λe=>decide (e.1.name=nm))=(l.drop i).find? λe=>decide (e.1.name=nm)) (λt _=>l.length - (RowKit.intOf (gs t 0)).toNat) ⟨0,rfl,Nat.zero_le _,Below.refl _ _,rfl⟩ ?_;rintro t e w3 ⟨i,rfl,hi,B3,f3⟩;have b3:=(zax B3 (zaj b1)).trans b1;have z3:=B3.size;rw[gs0,oLss];by_cases g:(i:Int)<l.length
 ·have hix:i<l.length:=by omega
  simp(disch:=first|omega|(simp(disch:=first|omega|fail)only[go_sem]<;>omega)|fail)only[go_sem];refine zaG ?_;intro u;have h3:=h.old (B1.trans (B3.mono (by omega)));obtain⟨b,o,row,blt,ix⟩:=h3.idx hix;have d1:=h3.1 _ (List.getElem_mem hix);rw[List.drop_eq_getElem_cons hix,List.find?_cons]at f3;unfold entP at row;have hp:entP l[i]=[S l[i].1.name,.int .i64 l[i].1.mode,.bool l[i].1.dir,l[i].2,.int .i64 l[i].1.time]:=rfl;generalize l[i]=x at*;obtain⟨en,x⟩:=x;have d1:BS w3 x en.data:=d1;obtain⟨xa,xc,rfl⟩:=zay d1;refine zaG ?_;rw[ix];simp(disch:=first|omega|(simp(disch:=first|omega|fail)only[go_sem,row]<;>omega)|fail)only[go_sem,row];obtain⟨w4,e4,B4,b4,z4⟩:=entW w3 [S en.name,.int .i64 en.mode,.bool en.dir,.slice xa en.data.length xc,.int .i64 en.time];rw[<-e4];clear e4;have b43:=(zax B4 (zaj b3)).trans b3;have B34:=B3.trans (B4.mono z3);simp(disch:=first|omega|(simp(disch:=first|omega|fail)only[go_sem,b4]<;>omega)|fail)only[go_sem,b4];by_cases c:en.name=nm
  ·rw[decide_eq_true (by simpa using c)]at f3⊢;simp only at f3;simp(disch:=first|omega|(simp(disch:=first|omega|fail)only[go_sem,b4,b43]<;>omega)|fail)only[go_sem,b4,b43];have:=hk (setb w4 w.heap.size (CB (entP (en,.slice xa en.data.length xc)) T.ar)) (B1.trans (zag (B34.mono (by omega)) (Nat.le_refl _) _));rw[f3]at this;exact this
  ·rw[decide_eq_false (by simpa using c)]at f3⊢;simp only at f3;simp(disch:=first|omega|(simp(disch:=first|omega|fail)only[go_sem]<;>omega)|fail)only[go_sem];intro u;exact⟨⟨i+1,rfl,by omega,B34,f3⟩,by simp only[gs0,intOf];omega⟩
 ·have:i=l.length:=by omega
  subst this;simp(disch:=first|omega|(simp(disch:=first|omega|fail)only[go_sem]<;>omega)|fail)only[go_sem];refine zaG ?_;intro u;simp(disch:=first|omega|(simp(disch:=first|omega|fail)only[go_sem,b3]<;>omega)|fail)only[go_sem,b3];rw[List.drop_length]at f3;have:=hk (setb w3 w.heap.size (CB ezC T.ar)) (B1.trans (zag (B3.mono (by omega)) (Nat.le_refl _) _));rw[f3]at this;exact this
theorem fits1n{v:Value}{qs:List SM.Stp}{vs:List Value}(h:StepsAt w v qs vs)(hk0:∀w',Below w.heap.size w w'->K (.bool false) w')(hk:∀w',qs.length<=2147483647->Below w.heap.size w w'->K (.bool true) w'):Cl P Fn.cI #[v] w K:=by
 by_cases c:(2147483647:Int)<qs.length
 ·apply zjC;unfold zgZ;obtain⟨a,cap,rfl⟩:=h.slice;refine zaa (λ_ _=>False) (λ_ _ _ h=>h.elim) ?_;simp(disch:=first|omega|(simp only[sZb,sZa,sZd]<;>omega)|(simp(disch:=first|omega|(simp only[sZb,sZa,sZd]<;>omega)|fail)only[go_sem];done)|fail)only[go_sem,zaN,zaL,zaJ,zaM,zaK,w_u8,zaI,Int.reduceToNat,Int.reducePow,Nat.reducePow];exact hk0 _ (Below.refl _ _)
 ·refine zqU h λb w' B=>?_;cases b with
  |false=>exact hk0 w' B
  |true=>exact hk w' (by omega) B
theorem BS_ne{x:Value}{l:List UInt8}{b:Nat}{t:TypeId}{cs:List Value}(h:BS w x l)(hb:bk w b=some (CB cs t))(hc:∀y:UInt8,byt y∉cs):l=[]\/∀k,x.ownBlock=some k->¬k=b:=by
 rcases h with h|⟨b',o,cap,rfl,h2,h3,h4⟩
 ·exact .inl h.1
 ·cases l with
  |nil=>exact .inl rfl
  |cons y l=>
   refine .inr λk hk e=>?_;have hk:b'=k:=Option.some.inj hk;unfold rowB at h3;rw[hk,e,hb]at h3;obtain⟨c',t',fz,e1,e2,e3⟩:=za7 h3;injection e1 with e1;injection e1 with e1 _ _;subst e1;have:byt y∈(cs.drop o).take (y::l).length:=by
    have e3':(cs.drop o).take (y::l).length=(y::l).map byt:=by simpa using e3
    rw[e3'];exact List.mem_cons_self ..
   exact hc y (List.mem_of_mem_drop (List.mem_of_mem_take this))
theorem ztm{se:Nat->Nat×Nat}{qs:List SM.Stp}{vs:List Value}{tv:Value}(hq:StepsAt w tv qs vs)(hql:qs.length<=60)(sn:Sn w w.heap.size se)(hsp:SM.zbp SM0 0 qs=true)
  (hk:∀w' v es,EntO w' w.heap.size v es->es.map (·.1)=(SM.runM SM0 0 qs).1.tree->SM.MI (SM.runM SM0 0 qs).1 none->Below w.heap.size w w'->K v w'):Cl P Fn.ck #[tv] w K:=by
 apply zjA;unfold zgY;rw[C.aM];refine zj3 hq hql sn hsp λw1 p hb hp F av cs J G inv=>?_;simp(disch:=first|omega|(simp(disch:=first|omega|fail)only[go_sem]<;>omega)|fail)only[go_sem];have zz:=J.bel.size;refine zmt J.fs inv (by omega) (λb hb=>(J.own b hb).2) λw2 v es h2 E2 e2 k2=>?_;refine hk w2 v es ⟨zp0 E2.o zz,E2.bs,E2.dj⟩ e2 J.fs.mi (J.bel.trans (k2.below (λb hb e=>by have:=(J.own b e).1;omega) zz))
theorem zrT{se:Nat->Nat×Nat}{qs:List SM.Stp}{vs:List Value}{tv v:Value}{s:SM.Stp}(hq:StepsAt w tv qs vs)(hql:qs.length<=2147483647)(hv:BS w v s.data)(sn:Sn w w.heap.size se)
  (hk0:∀w',Below w.heap.size w w'->K (tup [AG ansZ,.slice none 0 0,.slice none 0 0,.bool false,.bool true]) w')
  (hk:∀w' c t1 t2 es es',qs.length<60->SM.zbp SM0 0 (qs++[s])=true->AnsN w' w.heap.size (λ_=>False) ((SM.runM SM0 0 qs).1.doS qs.length s).2 c->EntO w' w.heap.size t1 es->EntO w' w.heap.size t2 es'->es.map (·.1)=(SM.runM SM0 0 qs).1.tree->es'.map (·.1)=(SM.runM SM0 0 (qs++[s])).1.tree->SM.MI (SM.runM SM0 0 qs).1 none->Below w.heap.size w w'->K (tup [AG c,t1,t2,.bool true,.bool true]) w'):Cl P Fn.cH #[tv,AG (zaC s v)] w K:=by
 apply zkL;unfold zhh;obtain⟨va,vc,ev⟩:=zay hv;subst ev;simp(disch:=first|omega|(simp(disch:=first|omega|fail)only[go_sem]<;>omega)|fail)only[go_sem];obtain⟨w2,e2⟩:∃w2,w2=(w.alloc (CB (zaC s (.slice va s.data.length vc)) T.ae)).alloc (CB ansZ T.ab):=⟨_,rfl⟩;have B2:Below w.heap.size w w2:=by rw[e2];repeat (first|exact Below.refl _ _|assumption|refine zag ?_ (by first|omega|(simp only[go_sem]<;>omega)) _|refine Below.alloc ?_ (by first|omega|(simp only[go_sem]<;>omega)) _|refine Below.drew ?_)
 have z2:w2.heap.size=w.heap.size+2:=by rw[e2];simp only[go_sem]
 have b2:bk w2 w.heap.size=some (CB (zaC s (.slice va s.data.length vc)) T.ae):=by rw[e2,zat _ _ _ (by simp only[go_sem];omega)];exact zaf _ _ _ rfl
 have b3:bk w2 (w.heap.size+1)=some (CB ansZ T.ab):=by rw[e2];exact zaf _ _ _ (by simp only[go_sem])
 rw[<-e2];clear e2;simp(disch:=first|omega|(simp(disch:=first|omega|fail)only[go_sem,b2]<;>omega)|fail)only[go_sem,b2];refine zrJ (s:=s) (hq.old B2) (by omega) (zcs hv B2 (Nat.le_refl _)) λw4 t13 q4 B4=>?_;have b4:=(zax B4 (zaj b3)).trans b3;have z4:=B4.size;have B24:=B2.trans (B4.mono (by omega));refine zaG ?_;refine zl6 q4 λw5 B5=>?_;have b5:=(zax B5 (zaj b4)).trans b4;have z5:=B5.size;have B25:=B24.trans (B5.mono (by omega));cases hsp:(decide ((qs++[s]).length<=60)&&SM.zbp SM0 0 (qs++[s]))with
 |false=>simp(disch:=first|omega|(simp(disch:=first|omega|fail)only[go_sem,b5]<;>omega)|fail)only[go_sem,b5];exact hk0 _ (B25.trans (zag (Below.refl _ _) (by omega) _))
 |true=>
  simp only[Bool.and_eq_true,decide_eq_true_eq]at hsp;simp(disch:=first|omega|(simp(disch:=first|omega|fail)only[go_sem]<;>omega)|fail)only[go_sem];intro u;have q5:=q4.old B5;have l60:qs.length<60:=by have:=hsp.1;simp at this;omega
  have hsq:SM.zbp SM0 0 qs=true:=by have:=hsp.2;rw[SM.zj6]at this;exact(Bool.and_eq_true _ _▸this).1
  refine zmE q5 hsp.1 (sn.next B25) hsp.2 λw6 t19 cs o6 a6 B6=>?_;have b6:=(zax B6 (zaj b5)).trans b5;have z6:=B6.size;have B26:=B25.trans (B6.mono (by omega));have hle:(qs++[s]).length=qs.length+1:=by simp
  have hal:(SM.runM SM0 0 (qs++[s])).2.length=(qs++[s]).length:=SM.znT _ _ _;obtain⟨ta,tc,et⟩:=q5.slice;subst et;obtain⟨aa,ac,ea⟩:=zan o6;subst ea;obtain⟨b,p,row,ix⟩:=a6.idx o6 hal (i:=qs.length) (by omega);have A6:=a6.2 qs.length (by rw[a6.1,hal];omega) (by rw[hal];omega);have eaz:(SM.runM SM0 0 (qs++[s])).2[qs.length]'(by rw[hal];omega)=((SM.runM SM0 0 qs).1.doS qs.length s).2:=by simp[SM.znU,SM.runM,List.getElem_append_right,SM.znT]
  rw[eaz]at A6;generalize cs[qs.length]'(by rw[a6.1,hal];omega)=c at*;refine zaG ?_;simp(disch:=first|omega|(simp(disch:=first|omega|fail)only[go_sem,ne_eq,not_true_eq_false,decide_false]<;>omega)|fail)only[go_sem,ne_eq,not_true_eq_false,decide_false];intro u;have hq6:=hq.old B26;obtain⟨va',vc',et⟩:=hq.slice;have ix0:=λM=>ix M;rw[et,V.af,<-et,ix];have b6d:bk w6.drew (w.heap.size+1)=some (CB ansZ T.ab):=b6;obtain⟨w7,e7⟩:∃w7,w7=w6.drew:=⟨_,rfl⟩;have B7:Below w6.heap.size w6 w7:=by rw[e7];repeat (first|exact Below.refl _ _|assumption|refine zag ?_ (by first|omega|(simp only[go_sem]<;>omega)) _|refine Below.alloc ?_ (by first|omega|(simp only[go_sem]<;>omega)) _|refine Below.drew ?_)
  have row7:zaY (bk w7 b) p 6=some c:=by rw[e7];exact row
  have b7:bk w7 (w.heap.size+1)=some (CB ansZ T.ab):=by rw[e7];exact b6
  rw[<-e7];clear e7;obtain⟨x,y,z,ec,hx,hy,hz,hb⟩:=A6;have A7:AnsN w7 _ _ _ _:=AnsN.old ⟨x,y,z,ec,hx,hy,hz,hb⟩ B7;simp(disch:=first|omega|(simp(disch:=first|omega|fail)only[go_sem,row7]<;>omega)|fail)only[go_sem,row7];have z7:=B7.size;have B27:=B26.trans (B7.mono (by omega));have blt:b<w7.heap.size:=by obtain⟨c',t',fz,e1,_,_⟩:=za7 row7;exact zaj e1
  refine ztm (hq.old B27) (by omega) (sn.next B27) hsq λw8 t1 es E8 e8 mi B8=>?_;have z8:=B8.size;have row8:=row7;rw[<-zax B8 blt]at row8;have B28:=B27.trans (B8.mono (by omega));have q8:=((q5.old B6).old B7).old B8;refine⟨by simp(disch:=first|omega|(simp(disch:=first|omega|fail)only[go_sem,row8]<;>omega)|fail)only[go_sem,row8],?_⟩;refine zou q8 hsp.1 (sn.next B28) hsp.2 λw9 t2 es' E9 e9 B9=>?_;have z9:=B9.size;have row9:=row8;rw[<-zax B9 (by omega)]at row9;refine⟨by simp(disch:=first|omega|(simp(disch:=first|omega|fail)only[go_sem,row9]<;>omega)|fail)only[go_sem,row9],?_⟩;have b8:=(zax B8 (zaj b7)).trans b7;have b9:=(zax B9 (zaj b8)).trans b8;have A9:=(AnsN.old A7 B8).old B9;subst ec;obtain⟨x1,x2,rfl⟩:=zay hx;obtain⟨y1,y2,rfl⟩:=zaX hy;obtain⟨z1,z2,rfl⟩:=zaX hz;unfold zbq;simp(disch:=first|omega|(simp(disch:=first|omega|fail)only[go_sem,b9]<;>omega)|fail)only[go_sem,b9];have kk:=Kp.setb w9 (w.heap.size+1) (CB (zbq ((SM.runM SM0 0 qs).1.doS qs.length s).2 (.slice x1 ((SM.runM SM0 0 qs).1.doS qs.length s).2.data.length x2) (.slice y1 ((SM.runM SM0 0 qs).1.doS qs.length s).2.names.length y2) (.slice z1 ((SM.runM SM0 0 qs).1.doS qs.length s).2.infos.length z2)) T.ab);have nb:∀y:UInt8,byt y∉ansZ:=λy h=>by simp[ansZ,byt]at h
  have E9':=E8.old B9;have fin:∀{B:Nat}{t:Value}{es:List EV},EntO w9 B t es->w.heap.size+1<B->EntO (setb w9 (w.heap.size+1) (CB (zbq ((SM.runM SM0 0 qs).1.doS qs.length s).2 (.slice x1 ((SM.runM SM0 0 qs).1.doS qs.length s).2.data.length x2) (.slice y1 ((SM.runM SM0 0 qs).1.doS qs.length s).2.names.length y2) (.slice z1 ((SM.runM SM0 0 qs).1.doS qs.length s).2.infos.length z2)) T.ab)) w.heap.size t es:=λE hB=>by have E':=E.kp kk (λb hb e=>by have:=(zaW E.o b hb).1;omega) λx hx=>BS_ne (E.bs x hx) b9 nb;exact⟨zp0 E'.o (by omega),E'.bs,E'.dj⟩
  refine hk _ _ t1 t2 es es' l60 hsp.2 ?_ (fin E9' (by omega)) (fin E9 (by omega)) e8 e9 mi ((B28.trans (B9.mono (by omega))).trans (zag (Below.refl _ _) (by omega) _));exact((A9.kp kk λb h1 _ _=>by omega).less (by omega)).to λ_ _ _ _ h=>h
theorem zqa{α:Type}(f:α->List Value)(k:Nat)(hf:∀x,(f x).length=k){j:Nat}(hj:j<k)(u:Value)(y:α):∀(l:List α)(i:Nat)(h:i<l.length),f y=(f l[i]).set j u->((l.map f).flatten).set (i*k+j) u=((l.set i y).map f).flatten
 |x::l,0,_,e=>by simp only[List.map_cons,List.flatten_cons,List.set_cons_zero,Nat.zero_mul,Nat.zero_add];rw[List.set_append_left _ _ (by rw[hf];exact hj),e];rfl
 |x::l,i+1,h,e=>by simp only[List.map_cons,List.flatten_cons,List.set_cons_succ];rw[List.set_append_right _ _ (by rw[hf,Nat.succ_mul];omega),hf,show(i+1)*k+j - k=i*k+j by rw[Nat.succ_mul];omega,zqa f k hf hj u y l i (by simpa using h) e]
theorem EntS.row{v:Value}{l:List EV}(h:EntS w v l):RowS w v l.length ((l.map entP).flatten):=by
 rcases h.2 with⟨rfl,a,cap,rfl⟩|⟨b,o,cap,rfl,h1,h2⟩
 ·exact .inr ⟨rfl,by simp,a,cap,rfl⟩
 ·by_cases h0:l=[]
  ·subst h0;exact .inr ⟨rfl,by simp,_,_,rfl⟩
  ·refine .inl ⟨b,o,cap,rfl,?_⟩;have:=zl3 (ob:=bk w b) (k:=5) (l.map entP) o (by simpa using h0) λi hi=>by rw[List.getElem_map];exact h2 i (by simpa using hi)
   rw[List.length_map]at this;rw[znB entP 5 zlz];exact this
theorem ztf{L:Value->World->Prop}{B:Nat}{v v':Value}{l l':List EV}(h:EntO w B v l)(hx:EntS w v' l')(hn:l.length+l'.length<=2000000)(hB:B<=w.heap.size)(hd:∀x∈l',x.1.data=[]\/∀b,x.2.ownBlock=some b->b<B)
  (hk:∀u w',EntO w' B u (l++l')->Below B w w'->w.heap.size<=w'.heap.size->Kp w w' (λk=>v.ownBlock=some k)->L u w'):
  st P (zac .append #[T.aE,T.aE] T.aE #[false,false] #[v,v']) w L:=by
 have lo:=zeS h.o;have one:∀u∈(l'.map entP).flatten,u.oneCell'=true:=λu hu=>by obtain⟨c,hc,hu⟩:=List.mem_flatten.1 hu;obtain⟨x,hx2,rfl⟩:=List.mem_map.1 hc;obtain⟨a,c,e⟩:=zay (hx.1 x hx2);simp only[entP,e,List.mem_cons,List.not_mem_nil,or_false]at hu;rcases hu with rfl|rfl|rfl|rfl|rfl<;>rfl
 refine zbK (size:=5) (bytes:=64) (z:=AG (entP (⟨[],0,false,[],0⟩,.slice none 0 0))) U.am (by kernel_rfl) rfl (by omega) h.o hx.row (znB entP 5 zlz l') one (by simp only[maxLen];omega) (by omega) hB λu w2 o2 g2 l2=>?_;have k2:=Kp.of_grown g2;have hu:∀b,u.ownBlock=some b->v.ownBlock=some b\/b=w.heap.size:=λb hb=>by
  rcases l2 with e|e
  ·exact .inl (by rw[<-e];exact hb)
  ·rw[hb]at e;exact .inr (Option.some.inj e)
 have nv:∀x∈l++l',x.1.data=[]\/∀b,x.2.ownBlock=some b->v.ownBlock≠some b/\b<w.heap.size:=λx hx3=>by
  rcases List.mem_append.1 hx3 with q|q
  ·rcases h.dj x q with e|e
   ·exact .inl e
   ·rcases zrQ (h.bs x q)with e2|e2
    ·exact .inl e2
    ·exact .inr λb hb=>⟨e b hb,e2 b hb⟩
  ·exact(hd x q).imp id λf b hb=>⟨λe=>by have:=f b hb;have:=(lo b e).1;omega,by have:=f b hb;omega⟩
 have bs:∀x∈l++l',BS w x.2 x.1.data:=λx hx3=>(List.mem_append.1 hx3).elim (h.bs x) (hx.1 x);refine hk u w2 ⟨?_,λx hx3=>zoM (bs x hx3) k2 ((nv x hx3).imp id λf b hb=>(f b hb).1),λx hx3=>(nv x hx3).imp id λf b hb e=>?_⟩ (zhz h.o g2 hB) k2.size k2
 ·rw[List.map_append,List.flatten_append,List.length_append];exact o2
 ·rcases hu b e with q|q
  ·exact(f b hb).1 q
  ·have:=(f b hb).2;omega
theorem zui{B:Nat}{v:Value}{l:List EV}(h:EntO w B v l){i j:Nat}(hi:i<l.length)(hj:j<5){u:Value}{e:SM.Ent}(he:entP (e,l[i].2)=(entP l[i]).set j u)(hde:e.data=l[i].1.data):
  ∃g cur,v.ownBlock=some g/\B<=g/\bk w g=some (CB cur T.ar)/\l.length*5<=cur.length/\(∀(k:IntKind)(M:Value->Prop),pu P (zaO T.aE v (.int k i)) M=M (pt g (i*5)))/\EntO (setb w g (CB (cur.set (i*5+j) u) T.ar)) B v (l.set i (e,l[i].2))/\Kp w (setb w g (CB (cur.set (i*5+j) u) T.ar)) (λk=>v.ownBlock=some k):=by
 obtain⟨g,cur,h1,h2,h3,h4,h5,h6⟩:=zhw U.am (by kernel_rfl) h.o hi;have kp:Kp w (setb w g (CB (cur.set (i*5+j) u) T.ar)) (λk=>v.ownBlock=some k):=zkV (Kp.setb w g _) λx _ e=>by rw[e];exact h1
 refine⟨g,cur,h1,h2,h3,h4,h6,⟨?_,λx hx=>?_,λx hx=>?_⟩,kp⟩
 ·have q:=zjL h.o h1 h3 (cur':=cur.set (i*5+j) u) (by simp) _ rfl;rw[List.take_set,h5,zqa entP 5 zlz hj u (e,l[i].2) l i hi he]at q;simpa using q
 ·rcases List.mem_or_eq_of_mem_set hx with q|q
  ·exact zoM (h.bs x q) kp ((h.dj x q).imp id λf b hb=>f b hb)
  ·rw[q];have hm:=List.getElem_mem hi;have:=zoM (h.bs _ hm) kp ((h.dj _ hm).imp id λf b hb=>f b hb);rw[hde];exact this
 ·rcases List.mem_or_eq_of_mem_set hx with q|q
  ·exact h.dj x q
  ·rw[q];have hm:=List.getElem_mem hi;rw[hde];exact h.dj _ hm
end
end Go.Proofs.YtdljebgllipdjaaGreatDoor.X
end
section
namespace Go.X
open Go
namespace SM
theorem ztK(m:Mem)(q:Str)(x:Nat):(m.ent q x).name=q:=rfl
theorem zsx{m:Mem}(h:Wf m)(n:Str):(m.tree.find? λe=>decide (e.name=n))=(m.find n).map (m.ent n):=by
 cases e:m.find n with
 |none=>rw[Option.map_none,List.find?_eq_none];intro y hy hn;obtain⟨x,h1,_⟩:=(zkv h y).1 hy;rw[of_decide_eq_true hn,e]at h1;cases h1
 |some x=>
  have hm:m.ent n x∈m.tree:=(zkv h _).2 ⟨x,e,rfl⟩;cases e3:m.tree.find? λe=>decide (e.name=n)with
  |none=>exact absurd ((List.find?_eq_none.1 e3) _ hm) (by simp[ztK])
  |some y=>have h1:=List.find?_some e3;have h2:=List.mem_of_find?_eq_some e3;obtain⟨z,h4,h5⟩:=(zkv h y).1 h2;rw[of_decide_eq_true h1]at h4 h5;rw[e]at h4;injection h4 with h4;rw[h5,<-h4];rfl
theorem ztL{m:Mem}(mi:MI m none){s:Stp}(times:Bool)(ho:s.op=if times then 11 else 9)(hn:norm s.name=s.name)(i:Int):
  (m.doS i s).1.tree=m.tree.map (λe=>if e.name=s.name then(if times then{e with time:=s.off}else{e with mode:=orI (zcq e.mode zal) (andI s.perm zal)})else e)/\(m.doS i s).2.e=(if(m.find s.name).isSome then 0 else 1):=by
 have hd:m.doS i s=m.namesS s:=by unfold Mem.doS;cases times<;>simp at ho<;>rw[if_neg (by omega),if_pos (by omega)]
 rw[hd];unfold Mem.namesS;rw[if_neg (λh=>h.2 hn)];simp only
 rw[hn,if_neg (by cases times<;>simp at ho<;>omega),if_neg (by cases times<;>simp at ho<;>omega),if_neg (by cases times<;>simp at ho<;>omega)];have h:=mi.wf;cases e:m.find s.name with
 |none=>
  refine⟨?_,by simp⟩;simp only
  symm;rw[List.map_congr_left (g:=id) (λy hy=>?_),List.map_id];obtain⟨x,h1,_⟩:=(zkv h y).1 hy;rw[if_neg (λq=>by rw[q,e]at h1;cases h1)];rfl
 |some x=>
  have lt:=h.find_lt e;have key:∀(nd:Node)(g:Ent->Ent),(∀q,g (m.ent q x)=⟨q,nd.mode,nd.dir,nd.data,nd.time⟩)->(m.setNode x nd).tree=m.tree.map λe=>if e.name=s.name then g e else e:=λnd g hg=>by
   show(m.setNode x nd).al.map _=(m.al.map _).map _;rw[List.map_map];refine List.map_congr_left λp hp=>?_;have hp':(p.1,p.2)∈m.al:=hp;have fp:=(zcL h p.1 p.2).2 hp';show(m.setNode x nd).ent p.1 p.2=if p.1=s.name then g (m.ent p.1 p.2)else m.ent p.1 p.2
   by_cases c:p.1=s.name
   ·rw[if_pos c];have:p.2=x:=by rw[c,e]at fp;exact(Option.some.inj fp).symm
    rw[this,hg];unfold Mem.ent Mem.setNode Mem.node;simp[lt]
   ·rw[if_neg c];have:p.2≠x:=λq=>c (by rw[<-mi.nm _ _ fp,q,mi.nm _ _ e]);unfold Mem.ent Mem.setNode Mem.node;simp[List.getElem?_set,Ne.symm this]
  simp only
  cases times with
  |true=>simp only[if_true]at ho;rw[if_neg (by omega),if_neg (by omega),if_neg (by omega),if_pos ho];exact⟨key _ (λe=>{e with time:=s.off}) λq=>rfl,by simp⟩
  |false=>simp only[Bool.false_eq_true,if_false]at ho;rw[if_neg (by omega),if_neg (by omega),if_pos ho];exact⟨key _ (λe=>{e with mode:=orI (zcq e.mode zal) (andI s.perm zal)}) λq=>rfl,by simp⟩
end SM
end Go.X
end
section
namespace Go.X
open Go Go.RowKit Go.ChangeShapes
end Go.X
end
section
namespace Go.Proofs.YtdljebgllipdjaaGreatDoor.X
open Go Go.X Go.Proofs Go.RowKit Go.ChangeShapes
theorem star:("*" :String)++ "errors.errorString" = "*errors.errorString" :=by decide
theorem errRow(u:TypeId)(h:P.typeName? 3 u=some "*errors.errorString"):u=T.aO:=typeName_ptr_named (nm:= "errors.errorString") (by rw[star];kernel_rfl) (by kernel_rfl) (by decide) u (by rw[star];exact h)
abbrev senL:List (Nat×String×List UInt8):=[(G.ah, "pub-marram/pub/afero/inner/os.ErrExist",[102,105,108,101,32,97,108,114,101,97,100,121,32,101,120,105,115,116,115]),(G.ab, "pub-marram/pub/afero/inner/os.ErrNotExist",[102,105,108,101,32,100,111,101,115,32,110,111,116,32,101,120,105,115,116]),(G.ai, "pub-marram/pub/afero/inner/os.ENOENT",[110,111,32,115,117,99,104,32,102,105,108,101,32,111,114,32,100,105,114,101,99,116,111,114,121]),(G.aj, "pub-marram/pub/afero/inner/os.ENOTDIR",[110,111,116,32,97,32,100,105,114,101,99,116,111,114,121]),(G.am, "pub-marram/pub/afero/inner/os.EPERM",[111,112,101,114,97,116,105,111,110,32,110,111,116,32,112,101,114,109,105,116,116,101,100]),(G.ap, "pub-marram/pub/afero/inner/os.EIO",[105,110,112,117,116,47,111,117,116,112,117,116,32,101,114,114,111,114]),(G.ak, "pub-marram/pub/afero/inner/os.EBADFD",[102,105,108,101,32,100,101,115,99,114,105,112,116,111,114,32,105,110,32,98,97,100,32,115,116,97,116,101]),(G.ao, "io.EOF",[69,79,70]),(G.af, "io.ErrUnexpectedEOF",[117,110,101,120,112,101,99,116,101,100,32,69,79,70]),(G.ae, "pub-marram/pub/afero/mem.ErrFileClosed",[70,105,108,101,32,105,115,32,99,108,111,115,101,100]),(G.ag, "pub-marram/pub/afero/mem.ErrOutOfRange",[111,117,116,32,111,102,32,114,97,110,103,101])]
abbrev senD(x:Nat×String×List UInt8):String×DataW Unit:=(x.2.1,.iface "*errors.errorString" (.ptr (.agg [.lit (.string x.2.2)])))
theorem zp5{W:World}:∀(l:List (Nat×String×List UInt8))(ps:List MemPlace),(∀x∈l,P.globalNamed x.2.1=some x.1/\(P.globals[x.1]?).map (·.type)=some T.aB)->DataW.LaidVars P W (l.map senD) ps->ps.Nodup->
  (∀b off,MemPlace.cell b off∈ps->(∃c t,W.heap[b]?=some (.cells c t (0,0)))/\∀u v,W.cell? ⟨b,off,none⟩=some (.iface u v)->Value.okWide P W .any 0 u v)->
  ∃aa:List (Nat×Nat),aa.length=l.length/\aa.Nodup/\(∀a∈aa,MemPlace.cell a.1 a.2∈ps/\∃c t,bk W a.1=some (CB c t))/\∀i(h1:i<l.length)(h2:i<aa.length),∃tt,bk W l[i].1=some (CB [er aa[i]] tt)
 |[],ps,_,_,_,_=>⟨[],rfl,List.nodup_nil,λa h=>(by cases h),λi h1=>absurd h1 (by simp)⟩
 |x::r,ps,hx,hv,hn,hr=>by
  obtain⟨n,nm,tx⟩:=x;obtain⟨g0,t0,cs0,f0,p0,q0,hg0,ht0,hv0,hd0,hq,rfl⟩:=hv;have hx0:=hx _ (List.mem_cons_self ..);obtain rfl:=Option.some.inj (hx0.1.symm.trans hg0);obtain rfl:=Option.some.inj (hx0.2.symm.trans ht0);obtain⟨l0⟩:=cs0;have ok0:∀u v,l0=[.iface u v]->Value.okWide P W .any 0 u v:=λu v e=>by subst e;exact(hr n 0 (by simp[MemPlace.row])).2 u v (by simpa using World.var?_cell hg0 hv0 0)
  obtain⟨a,s,rfl,hc,hs,hz,rfl⟩:=errorString_of_trod Tryz.underlying116 errRow U.aq Tryz.underlying251 rfl rfl U.string (by kernel_rfl) (by kernel_rfl) hd0 ok0;have hspot:a.spot=none:=by
   unfold World.cell? at hc;split at hc
   ·cases h:a.spot with
    |none=>rfl
    |some s=>rw[h]at hc;simp at hc
   ·cases hc
  obtain⟨b,o,sp⟩:=a;simp only at hspot;subst hspot;have hrow1:MemPlace.row ⟨b,o,none⟩ 1=[MemPlace.cell b o]:=by simp[MemPlace.row]
  have mem1:MemPlace.cell b o∈MemPlace.row ⟨n,0,none⟩ (#[Value.iface T.aO (pt b o)]:Array Value).size++MemPlace.row ⟨b,o,none⟩ 1++q0:=List.mem_append_left _ (List.mem_append_right _ (by rw[hrow1];exact List.mem_cons_self ..));have mem0:MemPlace.cell n 0∈MemPlace.row ⟨n,0,none⟩ (#[Value.iface T.aO (pt b o)]:Array Value).size++MemPlace.row ⟨b,o,none⟩ 1++q0:=List.mem_append_left _ (List.mem_append_left _ (by simp[MemPlace.row]));obtain⟨⟨c1,tt1,hb1⟩,_⟩:=hr b o mem1;obtain⟨⟨c0,tt0,hb0⟩,_⟩:=hr n 0 mem0;obtain⟨aa,e1,e2,e3,e4⟩:=zp5 r q0 (λy hy=>hx y (List.mem_cons_of_mem _ hy)) hq (List.nodup_append.1 hn).2.1 λb off hm=>hr b off (List.mem_append_right _ hm);refine⟨(b,o)::aa,by simp[e1],List.nodup_cons.2 ⟨λhm=>?_,e2⟩,λa ha=>?_,λi h1 h2=>?_⟩
  ·exact(List.nodup_append.1 hn).2.2 _ (List.mem_append_right _ (by rw[hrow1];exact List.mem_cons_self ..)) _ (e3 _ hm).1 rfl
  ·rcases List.mem_cons.1 ha with rfl|ha
   ·exact⟨mem1,c1.toList,tt1,hb1⟩
   ·exact⟨List.mem_append_right _ (e3 a ha).1,(e3 a ha).2⟩
  ·cases i with
   |zero=>refine⟨tt0,?_⟩;have e:W.var? P nm=some #[.iface T.aO (pt b o)]:=hv0;simp only[World.var?,hg0,Option.bind_some,hb0]at e;injection e with e;subst e;exact hb0
   |succ i=>exact e4 i (by simpa using h1) (by simpa using h2)
theorem sn_of{W:World}(h:laidMet P (senL.map senD) W):∃m,Sn W W.heap.size m:=by
 obtain⟨ps,hv,hn,hr⟩:=h;have hx:∀x∈senL,P.globalNamed x.2.1=some x.1/\(P.globals[x.1]?).map (·.type)=some T.aB:=by
  have:(senL.all λx=>P.globalNamed x.2.1==some x.1&&(P.globals[x.1]?).map (·.type)==some T.aB)=true:=by kernel_rfl
  intro x hx;have:=List.all_eq_true.1 this x hx;simpa using this
 obtain⟨aa,e1,e2,e3,e4⟩:=zp5 senL ps hx hv hn hr;have hs:∀g∈sents,∃i,i<11/\(senL.map (·.1))[i]?=some g/\(senL.map (·.1)).idxOf g=i:=by decide
 refine⟨λg=>aa.getD ((senL.map (·.1)).idxOf g) (0,0),λg hg=>?_,λg hg=>?_,λg hg g' hg' e=>?_⟩
 ·obtain⟨i,hi,h1,h2⟩:=hs g hg;obtain⟨tt,h3⟩:=e4 i (by simpa using hi) (by rw[e1];simpa using hi);rw[h2];have h4:senL[i]'(by simpa using hi)=senL[i]'(by simpa using hi):=rfl;have h5:(senL[i]'(by simpa using hi)).1=g:=by rw[List.getElem?_map,List.getElem?_eq_getElem (by simpa using hi)]at h1;exact Option.some.inj h1
  rw[h5]at h3;have h6:aa.getD i (0,0)=aa[i]'(by rw[e1];simpa using hi):=by simp[List.getD,show i<aa.length by rw[e1];simpa using hi]
  rw[h6];exact⟨zaj h3,tt,h3⟩
 ·obtain⟨i,hi,h1,h2⟩:=hs g hg;rw[h2];have h6:aa.getD i (0,0)=aa[i]'(by rw[e1];simpa using hi):=by simp[List.getD,show i<aa.length by rw[e1];simpa using hi]
  rw[h6];obtain⟨_,c,t,h7⟩:=e3 _ (List.getElem_mem (by rw[e1];simpa using hi:i<aa.length));exact⟨zaj h7,c,t,h7⟩
 ·obtain⟨i,hi,h1,h2⟩:=hs g hg;obtain⟨i',hi',h1',h2'⟩:=hs g' hg';simp only[h2,h2']at e;have h6:aa.getD i (0,0)=aa[i]'(by rw[e1];simpa using hi):=by simp[List.getD,show i<aa.length by rw[e1];simpa using hi]
  have h6':aa.getD i' (0,0)=aa[i']'(by rw[e1];simpa using hi'):=by simp[List.getD,show i'<aa.length by rw[e1];simpa using hi']
  rw[h6,h6']at e;have:=(List.getElem_inj e2).1 e;subst this;rw[h1]at h1';exact Option.some.inj h1'
end Go.Proofs.YtdljebgllipdjaaGreatDoor.X
end
section
namespace Go.Proofs.YtdljebgllipdjaaGreatDoor.X
open Go Go.X Go.Proofs Go.RowKit
section
variable{w:World}{K:Value->World->Prop}{tv:Value}{qs:List SM.Stp}{vs:List Value}{se:Nat->Nat×Nat}
theorem zp8:∀(qs:List SM.Stp)(k:Nat){m:SM.Mem}(i:Int),Inv k m->k+qs.length<=1000->SM.zbp m i qs=true->Inv (k+qs.length) (SM.runM m i qs).1
 |[],k,m,i,h,_,_=>h
 |q::qs,k,m,i,h,hk,hs=>by simp only[SM.zbp,Bool.and_eq_true]at hs;have:=zp8 qs (k+1) (i+1) (h.step (by simp at hk;omega) hs.1 i) (by simp at hk⊢;omega) hs.2;simp only[SM.runM];rw[show k+(q::qs).length=k+1+qs.length by simp;omega];exact this
theorem ent_fit{k:Nat}{m:SM.Mem}(h:Inv k m)(e:SM.Ent)(he:e∈m.tree):e.data.length<=8192/\e.name.length<=500*(k+1):=by obtain⟨x,h1,h2⟩:=(SM.zkv h.wf e).1 he;rw[h2];exact⟨(h.node (h.wf.find_lt h1)).2.1,h.nl _ (SM.zbO h.wf h1).1⟩
theorem find_ev{l:List EV}{n:Str}:(l.find? λe=>decide (e.1.name=n)).isSome=((l.map (·.1)).find? λe=>decide (e.name=n)).isSome:=by
 rw[List.find?_map];cases h:l.find? ((λe=>decide (e.name=n))∘λx=>x.1)with
 |none=>rw[show(λe:EV=>decide (e.1.name=n))=((λe:SM.Ent=>decide (e.name=n))∘λx=>x.1)from rfl,h];rfl
 |some x=>rw[show(λe:EV=>decide (e.1.name=n))=((λe:SM.Ent=>decide (e.name=n))∘λx=>x.1)from rfl,h];rfl
def setE(nm:Str)(perm secs:Int)(times:Bool):SM.Ent->SM.Ent:=λe=>if e.name=nm then(if times then{e with time:=secs}else{e with mode:=orI (zcq e.mode 13631999) (andI perm 13631999)})else e
theorem ms1{c:Nat}{E:Int}{has:Bool}{y1 y2 y3 y4 y5 t2 t5:Value}{es' l:List EV}{s4:List Value}{u4:Env}
  (hc:bk w c=some (CB [.int .i64 E,y1,y2,y3,y4,y5] T.ab)) (he:E=if has then 0 else 1) (E2:EntS w t2 es') (E5:EntS w t5 l) (hfe:es'.map (·.1)=l.map (·.1)) (hl2:es'.length<=1000000) (hl0:0<es'.length) (hd:∀x∈es',x.1.data.length<=281474976710656)
  (hK:∀w',Below w.heap.size w w'->K (.bool true) w'):zdY (.bool true) (pt c 0) (.bool has) t2 t5 K s4 u4 w:=by
 unfold zdY;have qb:∀(L:Value->Prop)(x y:Bool),pu P (oBin .eql T.bool false false (.bool x) (.bool y)) L=L (.bool (x==y)):=λL x y=>oEqlB L U.bool _ _ x y;obtain⟨ta,tc,et⟩:=E2.slice;have fin:∀L:Value->World->Prop,(∀w',Below w.heap.size w w'->L (.bool true) w')->Cl P Fn.bE #[t2,t5] w L:=λL hL=>zth E2 E5 hfe hl2 hd hL;cases has with
 |true=>rw[if_pos rfl]at he;subst he;simp(disch:=first|omega|(simp(disch:=first|omega|fail)only[go_sem,hc,qb,beq_self_eq_true]<;>omega)|fail)only[go_sem,hc,qb,beq_self_eq_true];refine fin _ λw6 B6=>?_;rw[et];simp(disch:=first|omega|(simp(disch:=first|omega|fail)only[go_sem]<;>omega)|fail)only[go_sem];exact hK _ B6
 |false=>rw[if_neg (by simp)]at he;subst he;simp(disch:=first|omega|(simp(disch:=first|omega|fail)only[go_sem,hc,qb,beq_self_eq_true]<;>omega)|fail)only[go_sem,hc,qb,beq_self_eq_true];refine fin _ λw6 B6=>?_;rw[et];simp(disch:=first|omega|(simp(disch:=first|omega|fail)only[go_sem]<;>omega)|fail)only[go_sem];exact hK _ B6
theorem znx{f:EV->EV}{l:List EV}{i:Nat}(hi:i<l.length):((l.take i).map f++l.drop i).set i (f l[i])=(l.take (i+1)).map f++l.drop (i+1):=by
 rw[List.set_append_right _ _ (by simp;omega),List.take_succ_eq_append_getElem hi,List.map_append,List.append_assoc];congr 1;rw[List.length_map,List.length_take,Nat.min_eq_left (Nat.le_of_lt hi),Nat.sub_self]
 conv=>lhs;rw[List.drop_eq_getElem_cons hi]
 rfl
theorem ms6{c:Nat}{nm:Str}{perm secs:Int}{times:Bool}{k:Nat}{m m':SM.Mem}{t1 t2:Value}{es es':List EV}{E:Int}{y1 y2 y3 y4 y5:Value}{s3:List Value}{u3:Env}
  (hc:bk w c=some (CB [.int .i64 E,y1,y2,y3,y4,y5] T.ab)) (E1:EntS w t1 es) (E2:EntS w t2 es') (e1:es.map (·.1)=m.tree) (e2:es'.map (·.1)=m'.tree) (inv:Inv k m) (inv':Inv k m') (hk:k<=70)
  (ht:m'.tree=m.tree.map (setE nm perm secs times)) (he:E=if(m.find nm).isSome then 0 else 1)
  (hK:∀w',Below w.heap.size w w'->K (.bool true) w'):zd4 t1 (S nm) (.bool true) (pt c 0) t2 K (.bool times) (.int .i64 secs) (.int .i64 perm) s3 u3 w:=by
 unfold zd4;rw[zbJ (n:=5) _ _ U.am (by kernel_rfl)];obtain⟨w1,g1⟩:∃w1,w1=w.alloc (CB [] T.ar):=⟨_,rfl⟩;have B1:Below w.heap.size w w1:=by rw[g1];repeat (first|exact Below.refl _ _|assumption|refine zag ?_ (by first|omega|(simp only[go_sem]<;>omega)) _|refine Below.alloc ?_ (by first|omega|(simp only[go_sem]<;>omega)) _|refine Below.drew ?_)
 have z1:w1.heap.size=w.heap.size+1:=by rw[g1];simp only[go_sem]
 have o1:w1.ownsRow w.heap.size T.ar 5 (sl w.heap.size 0 0 0) 0 []:=zlT (by rw[g1];exact zaf _ _ _ rfl) rfl (Nat.le_refl _) (Nat.zero_le _);rw[<-g1];clear g1;have ll:∀{m:SM.Mem}{l:List EV},Inv k m->l.map (·.1)=m.tree->0<l.length/\l.length<=1000000:=λ{m l} inv e=>by have:=congrArg List.length e;rw[List.length_map,SM.zlD inv.wf]at this;have h1:=inv.nn;have h2:=inv.rt;rw[<-SM.zcn inv.wf]at h2;have:=List.length_pos_of_mem h2;omega
 have l1:=ll inv e1;have l2:=ll inv' e2;refine ztf (l:=[]) ⟨o1,λx hx=>(by cases hx),λx hx=>(by cases hx)⟩ (E1.old B1) (by simp;omega) (by omega) (λx hx=>zrQ (E1.1 x hx)) λt5 w2 E5 B2 z2 k2=>?_;have B12:=B1.trans B2;rw[C.bF];refine zoA (E1.old B12) l1.2 λw3 B3=>?_;have z3:=B3.size;have hs:(es.find? λe=>decide (e.1.name=nm)).isSome=(m.find nm).isSome:=by rw[find_ev,e1,SM.zsx inv.wf,Option.isSome_map]
 generalize hfd:(es.find? λe=>decide (e.1.name=nm))=fd at hs⊢;have hsl:∃a n c,(fd.getD ez).2=.slice a n c:=by
  cases fd with
  |none=>exact⟨_,_,_,rfl⟩
  |some x=>obtain⟨a,c,e⟩:=zay (E1.1 x (List.mem_of_find?_eq_some hfd));exact⟨a,_,c,e⟩
 generalize fd.getD ez=fe at*;obtain⟨en,fx⟩:=fe;obtain⟨fa,fn,fc,e5⟩:=hsl;have e5:fx=.slice fa fn fc:=e5;subst e5;unfold entP;simp(disch:=first|omega|(simp(disch:=first|omega|fail)only[go_sem]<;>omega)|fail)only[go_sem];obtain⟨w4,e4,B4,b4',z4⟩:=entW w3 [S en.name,.int .i64 en.mode,.bool en.dir,.slice fa fn fc,.int .i64 en.time];rw[<-e4];clear e4 b4';have B14:=B12.trans ((B3.mono (by omega)).trans (B4.mono (by omega)));have E54:=(E5.old B3).old B4;refine zaG ?_;obtain⟨va,vc,ev⟩:=E54.S.slice;rw[ev,V.ah,<-ev];clear ev;rw[List.nil_append]at E54⊢;obtain⟨f,hf⟩:∃f:EV->EV,f=λx=>(setE nm perm secs times x.1,x.2):=⟨_,rfl⟩;refine zaA (λt w'=>∃i:Nat,t=[.int .i64 i]/\i<=es.length/\Below w.heap.size w w'/\EntO w' w.heap.size t5 ((es.take i).map f++es.drop i)) (λt _=>es.length - (RowKit.intOf (gs t 0)).toNat) ⟨0,rfl,Nat.zero_le _,B14,by simpa using E54⟩ ?_;rintro t e w5 ⟨i,rfl,hi,B5,E55⟩;have z5:=B5.size;rw[gs0,oLss];by_cases g:(i:Int)<es.length
 ·have hix:i<es.length:=by omega
  simp(disch:=first|omega|(simp(disch:=first|omega|fail)only[go_sem]<;>omega)|fail)only[go_sem];refine zaG ?_;intro u;unfold zgu;rw[gs0];have hil:i<((es.take i).map f++es.drop i).length:=by simp;omega
  have eg:((es.take i).map f++es.drop i)[i]=es[i]:=by rw[List.getElem_append_right (by simp;omega)];simp[Nat.min_eq_left (Nat.le_of_lt hix)]
  obtain⟨b,o,row,blt,ix⟩:=E55.S.idx hil;have d1:=E55.bs _ (List.getElem_mem hil);have step:=znx (f:=f) hix;rw[eg]at row d1;refine zaG ?_;rw[ix];obtain⟨y,hy⟩:∃y,es[i]=y:=⟨_,rfl⟩;rw[hy]at row d1 step eg;obtain⟨en2,x⟩:=y;have d1:BS w5 x en2.data:=d1;obtain⟨xa,xc,ex⟩:=zay d1;subst ex;have fy:f (en2,.slice xa en2.data.length xc)=(setE nm perm secs times en2,.slice xa en2.data.length xc):=by rw[hf]
  rw[fy]at step;unfold entP at row;simp(disch:=first|omega|(simp(disch:=first|omega|fail)only[go_sem,row]<;>omega)|fail)only[go_sem,row];obtain⟨w6,g6,B6,b6,z6⟩:=entW w5 [S en2.name,.int .i64 en2.mode,.bool en2.dir,.slice xa en2.data.length xc,.int .i64 en2.time];rw[<-g6];clear g6;have E56:=E55.old B6;have B56:=B5.trans (B6.mono z5);have nxt:∀(w7:World)(u:Env),Below w.heap.size w w7->EntO w7 w.heap.size t5 ((es.take (i+1)).map f++es.drop (i+1))->zas [Value.int IntKind.i64 ↑i]
    (λs' w'=>(∃i:Nat,s'=[Value.int IntKind.i64 ↑i]/\i<=es.length/\Below w.heap.size w w'/\EntO w' w.heap.size t5 ((es.take i).map f++es.drop i))/\es.length - (RowKit.intOf (gs s' 0)).toNat<es.length - (RowKit.intOf (.int .i64 (i:Int))).toNat) [] u w7:=λw7 u B7 E7=>by
   unfold zas;rw[gs0];simp(disch:=first|omega|(simp(disch:=first|omega|fail)only[go_sem]<;>omega)|fail)only[go_sem];exact⟨⟨i+1,rfl,by omega,B7,E7⟩,by simp only[gs0,intOf];omega⟩
  have egn:(((es.take i).map f++es.drop i)[i]).2=.slice xa en2.data.length xc:=by rw[eg]
  have bel:∀(w7:World),Kp w6 w7 (λk=>t5.ownBlock=some k)->Below w.heap.size w w7:=λw7 k=>B56.trans (k.below (λk hk e=>by have:=(zaW E56.o k e).1;omega) (by omega));by_cases c1:en2.name=nm
  ·cases htm:times with
   |true=>
    have e7:setE nm perm secs times en2={en2 with time:=secs}:=by unfold setE;rw[if_pos c1,htm,if_pos rfl]
    rw[e7]at step;obtain⟨gg,cur,q1,q2,q3,q4,q5,q6,q7⟩:=zui E56 hil (j:=4) (u:=.int .i64 secs) (e:={en2 with time:=secs}) (by omega) (by rw[eg];rfl) (by rw[eg]);rw[egn,step]at q6;have q5':=λM=>q5 .i64 M;simp(disch:=first|omega|(simp(disch:=first|omega|fail)only[go_sem,b6,c1,q5',q3]<;>omega)|fail)only[go_sem,b6,c1,q5',q3];intro u;exact nxt _ u (bel _ q7) q6
   |false=>
    have e7:setE nm perm secs times en2={en2 with mode:=orI (zcq en2.mode 13631999) (andI perm 13631999)}:=by unfold setE;rw[if_pos c1,htm,if_neg (by simp)]
    rw[e7]at step;obtain⟨gg,cur,q1,q2,q3,q4,q5,q6,q7⟩:=zui E56 hil (j:=1) (u:=.int .i64 (orI (zcq en2.mode 13631999) (andI perm 13631999))) (e:={en2 with mode:=orI (zcq en2.mode 13631999) (andI perm 13631999)}) (by omega) (by rw[eg];rfl) (by rw[eg]);rw[egn,step]at q6;have q5':=λM=>q5 .i64 M;simp(disch:=first|omega|(simp(disch:=first|omega|fail)only[go_sem,b6,c1]<;>omega)|fail)only[go_sem,b6,c1];unfold zdE;simp(disch:=first|omega|(simp(disch:=first|omega|fail)only[go_sem,b6,c1]<;>omega)|fail)only[go_sem,b6,c1];unfold zgF;rw[gs0];simp(disch:=first|omega|(simp(disch:=first|omega|fail)only[go_sem,b6,q5',q3]<;>omega)|fail)only[go_sem,b6,q5',q3];intro u;exact nxt _ u (bel _ q7) q6
  ·have e7:setE nm perm secs times en2=en2:=by unfold setE;rw[if_neg c1]
   rw[e7]at step;have c2:decide (en2.name=nm)=false:=decide_eq_false c1;have e8:(es.take i).map f++es.drop i=(es.take (i+1)).map f++es.drop (i+1):=by
    rw[<-step,<-egn];have:(en2,(((es.take i).map f++es.drop i)[i]).2)=((es.take i).map f++es.drop i)[i]:=by rw[eg]
    rw[this,List.set_getElem_self]
   rw[e8]at E56;simp(disch:=first|omega|(simp(disch:=first|omega|fail)only[go_sem,b6]<;>omega)|fail)only[go_sem,b6];unfold zdE;simp(disch:=first|omega|(simp(disch:=first|omega|fail)only[go_sem,b6]<;>omega)|fail)only[go_sem,b6];intro u;exact nxt _ u B56 E56
 ·have:i=es.length:=by omega
  subst this;simp(disch:=first|omega|(simp(disch:=first|omega|fail)only[go_sem]<;>omega)|fail)only[go_sem];refine zaG ?_;intro u;have hc5:=(zax B5 (zaj hc)).trans hc;rw[List.take_length,List.drop_length,List.append_nil]at E55;refine ms1 hc5 (by rw[hs];exact he) (E2.old B5) E55.S ?_ l2.2 l2.1 (λx hx=>?_) λw' B'=>hK w' (B5.trans (B'.mono (by omega)))
  ·rw[e2,ht,<-e1,List.map_map,List.map_map,hf];rfl
  ·have:=ent_fit inv' x.1 (by rw[<-e2];exact List.mem_map_of_mem hx);omega
theorem ms7{op:Int}{nm:Str}{perm secs:Int}{times:Bool}{u2:Env}(ho:op=if times then 11 else 9)(hq:StepsAt w tv qs vs)(hql:qs.length<=2147483647)(sn:Sn w w.heap.size se)
  (hK:∀w',Below w.heap.size w w'->K (.bool true) w'):zdM (S nm) (.int .i64 perm) (.int .i64 secs) tv K (.bool times) [.int .i64 op] u2 w:=by
 unfold zdM;rw[gs0];simp(disch:=first|omega|(simp(disch:=first|omega|fail)only[go_sem]<;>omega)|fail)only[go_sem];refine zrT (s:=⟨op,nm,[],0,perm,0,[],secs,0,0⟩) (v:=.slice none 0 0) hq hql (zb0 _) sn (λw1 B1=>?_) λw1 c t1 t2 es es' l60 hsp A E1 E2 e1 e2 mi B1=>?_
 ·simp(disch:=first|omega|(simp(disch:=first|omega|fail)only[go_sem]<;>omega)|fail)only[go_sem];refine zaG ?_;have z1:=B1.size;exact hK _ (by repeat (first|exact Below.refl _ _|assumption|refine zag ?_ (by first|omega|(simp only[go_sem]<;>omega)) _|refine Below.alloc ?_ (by first|omega|(simp only[go_sem]<;>omega)) _|refine Below.drew ?_))
 ·generalize hst:(⟨op,nm,[],0,perm,0,[],secs,0,0⟩:SM.Stp)=st at*;have hop:st.op=if times then 11 else 9:=by rw[<-hst];exact ho
  have hnm:st.name=nm:=by rw[<-hst]
  have hpm:st.perm=perm:=by rw[<-hst]
  have hof:st.off=secs:=by rw[<-hst]
  obtain⟨x,y,z,rfl,hx,hy,hz,_⟩:=A;obtain⟨x1,x2,rfl⟩:=zay hx;obtain⟨y1,y2,rfl⟩:=zaX hy;obtain⟨z1,z2,rfl⟩:=zaX hz;rw[SM.zj6]at hsp;have hs1:=(Bool.and_eq_true _ _▸hsp).1;have hs2:=(Bool.and_eq_true _ _▸hsp).2;rw[Int.zero_add]at hs2;simp only[SM.zbp,Bool.and_true]at hs2;have inv:=zp8 qs 0 0 Inv.start (by omega) hs1;have er:(SM.runM SM0 0 (qs++[st])).1=((SM.runM SM0 0 qs).1.doS qs.length st).1:=by simp[SM.znU,SM.runM]
  rw[er]at e2;have inv':=inv.step (by omega) hs2 qs.length;have l4:=(zpZ hs2).1;rw[hnm]at l4;rw[Nat.zero_add]at inv inv';have inv1:Inv (qs.length+1) (SM.runM SM0 0 qs).1:=InvG.to inv (by omega) (by omega) (by omega);have st3:=λh=>SM.ztL mi times hop h qs.length;rw[hnm,hpm,hof]at st3;have z1':=B1.size;unfold zbq;simp(disch:=first|omega|(simp(disch:=first|omega|fail)only[go_sem]<;>omega)|fail)only[go_sem];generalize ((SM.runM SM0 0 qs).1.doS qs.length st)=rr at*;obtain⟨w2,e3⟩:∃w2,w2=setb (w1.alloc (CB ansZ T.ab)) w1.heap.size (CB [.int .i64 rr.2.e,.int .i64 rr.2.n,.int .i64 rr.2.off,.slice x1 rr.2.data.length x2,.slice y1 rr.2.names.length y2,.slice z1 rr.2.infos.length z2] T.ab):=⟨_,rfl⟩;have B2:Below w1.heap.size w1 w2:=by rw[e3];repeat (first|exact Below.refl _ _|assumption|refine zag ?_ (by first|omega|(simp only[go_sem]<;>omega)) _|refine Below.alloc ?_ (by first|omega|(simp only[go_sem]<;>omega)) _|refine Below.drew ?_)
  have b2:bk w2 w1.heap.size=some (CB [.int .i64 rr.2.e,.int .i64 rr.2.n,.int .i64 rr.2.off,.slice x1 rr.2.data.length x2,.slice y1 rr.2.names.length y2,.slice z1 rr.2.infos.length z2] T.ab):=by rw[e3];exact zap _ _ _ _ rfl (by simp only[go_sem];omega)
  rw[<-e3];clear e3;refine zaG ?_;refine zb8 l4 λw3 B3=>?_;have b3:=(zax B3 (zaj b2)).trans b2;have z2':=B2.size;have B13:=B1.trans ((B2.mono (by omega)).trans (B3.mono (by omega)));by_cases c:norm nm=nm
  ·have r:=st3 c;simp(disch:=first|omega|(simp(disch:=first|omega|fail)only[go_sem,c,ne_eq,not_true_eq_false,decide_false]<;>omega)|fail)only[go_sem,c,ne_eq,not_true_eq_false,decide_false];intro u;exact ms6 b3 ((E1.old B2).old B3).S ((E2.old B2).old B3).S e1 e2 inv1 inv' (by omega) r.1 r.2 λw4 B4=>hK w4 (B13.trans (B4.mono (by have:=B3.size;omega)))
  ·simp(disch:=first|omega|(simp(disch:=first|omega|fail)only[go_sem]<;>omega)|fail)only[go_sem];exact hK _ B13
theorem znQ{nm:Str}{perm secs:Int}{times:Bool}(hq:StepsAt w tv qs vs)(hn:nm.length<=140737488351232)(hs:Sn w w.heap.size se):Cl P Fn.cK #[tv,S nm,.int .i64 perm,.int .i64 secs,.bool times] w λv w'=>v=.bool true/\Below w.heap.size w w':=by
 apply zlj;unfold zh6;refine zaG ?_;rw[C.bH];refine fits1n hq (λw3 B3=>?_) λw3 hql B3=>?_
 ·simp(disch:=first|omega|(simp(disch:=first|omega|fail)only[go_sem]<;>omega)|fail)only[go_sem];exact⟨trivial,B3⟩
 by_cases c:(2147483647:Int)<nm.length
 ·simp(disch:=first|omega|(simp(disch:=first|omega|fail)only[go_sem]<;>omega)|fail)only[go_sem];exact⟨trivial,B3⟩
 simp(disch:=first|omega|(simp(disch:=first|omega|fail)only[go_sem]<;>omega)|fail)only[go_sem];intro u;unfold zgH;refine zaG ?_;cases times with
 |true=>simp(disch:=first|omega|(simp(disch:=first|omega|fail)only[go_sem]<;>omega)|fail)only[go_sem];intro u2;exact ms7 (times:=true) rfl (hq.old B3) hql (hs.next B3) λw4 B4=>⟨rfl,B3.trans (B4.mono B3.size)⟩
 |false=>simp(disch:=first|omega|(simp(disch:=first|omega|fail)only[go_sem]<;>omega)|fail)only[go_sem];intro u2;exact ms7 (times:=false) rfl (hq.old B3) hql (hs.next B3) λw4 B4=>⟨rfl,B3.trans (B4.mono B3.size)⟩
theorem FnMemSets_walk(v0:Value)(qs:List SM.Stp)(nm:Str)(perm secs:Int)(times:Bool)(w:World)(h:(∃vs,StepsAt w v0 qs vs)/\(∀q∈qs,FitS q)/\qs.length<=maxLen)(hn:nm.length<=140737488351232)(h2:(Lit.int .i64 perm).wf=true)(h3:(Lit.int .i64 secs).wf=true)(hL:laidMet P (senL.map senD) w):
  Cl P Fn.cK #[v0,S nm,.int .i64 perm,.int .i64 secs,.bool times] w λv w'=>v=.bool true/\Below w.heap.size w w':=by
 obtain⟨m,hs⟩:=sn_of hL;obtain⟨⟨vs,hq⟩,_⟩:=h;exact znQ hq hn hs
end
end Go.Proofs.YtdljebgllipdjaaGreatDoor.X
end
