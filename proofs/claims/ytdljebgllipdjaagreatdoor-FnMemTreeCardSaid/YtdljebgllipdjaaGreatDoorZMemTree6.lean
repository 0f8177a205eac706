/- What the claim needs of the texts on it, laid together. No condition. -/
import Derived.Test.YtdljebgllipdjaaGreatDoorZMemTree5
import Derived.ChangeArms
import Derived.LaidMore
import Derived.OpenShut
import Derived.Stop.LaidErr
set_option linter.unusedVariables false
set_option linter.unusedSimpArgs false
set_option linter.unusedSectionVars false
set_option maxRecDepth 100000
section
namespace Go.Proofs.YtdljebgllipdjaaGreatDoor.X
open Go Go.X Go.Proofs Go.RowKit Go.X.PM Go.Lib
structure Bes(x:FX)(n:SM.Node)(h:SM.Hnd)(md:Value):Prop where
 bytes:x.bytes=n.data
 cl:x.cl=h.cl
 ro:x.ro=h.ro
 dir:x.dir=n.dir
 nm:x.nm=n.name
 mode:x.mode=n.mode
 mt:x.mt=n.time
 rdc:x.rdc=h.listed
 md:x.md=md
 pos:PM.Pos h x.pos
theorem iteS{α:Type}{p:Prop}[Decidable p]{Q:α->Prop}{a b:α}(ha:Q a)(hb:Q b):Q (if p then a else b):=by
 by_cases c:p
 ·rw[if_pos c];exact ha
 ·rw[if_neg c];exact hb
theorem zs8(x:FX)(q:SM.Stp):(onX x q).1.rdc=x.rdc/\(onX x q).1.md=x.md/\(onX x q).1.nm=x.nm/\(onX x q).1.dir=x.dir/\(onX x q).1.mode=x.mode:=by
 unfold onX
 repeat' apply iteS (Q:=λr:FX×SM.Ans=>r.1.rdc=x.rdc/\r.1.md=x.md/\r.1.nm=x.nm/\r.1.dir=x.dir/\r.1.mode=x.mode)
 ·unfold rdR;split<;>exact⟨rfl,rfl,rfl,rfl,rfl⟩
 ·exact⟨rfl,rfl,rfl,rfl,rfl⟩
 ·unfold wrR;repeat' split
  all_goals exact⟨rfl,rfl,rfl,rfl,rfl⟩
 ·unfold wrR;repeat' split
  all_goals exact⟨rfl,rfl,rfl,rfl,rfl⟩
 ·unfold skR;split<;>exact⟨rfl,rfl,rfl,rfl,rfl⟩
 ·unfold trR;repeat' split
  all_goals exact⟨rfl,rfl,rfl,rfl,rfl⟩
 ·unfold clR;split<;>exact⟨rfl,rfl,rfl,rfl,rfl⟩
 all_goals exact⟨rfl,rfl,rfl,rfl,rfl⟩
theorem zp9{x:FX}(h:x.cl=true)(q:SM.Stp):(onX x q).1.cl=true/\((onX x q).1.pos=x.pos\/(q.op=15/\(onX x q).1.pos=q.off)):=by
 unfold onX;by_cases e:q.op=12
 ·rw[if_pos e];unfold rdR;rw[if_pos h];exact⟨h,.inl rfl⟩
 rw[if_neg e];by_cases e:q.op=13
 ·rw[if_pos e];exact⟨h,.inl rfl⟩
 rw[if_neg e];by_cases e:q.op=14
 ·rw[if_pos e];unfold wrR;rw[if_pos h];exact⟨h,.inl rfl⟩
 rw[if_neg e];by_cases e:q.op=15
 ·rw[if_pos e];unfold wrR;rw[if_pos (show({x with pos:=q.off}:FX).cl=true from h)];exact⟨h,.inr ⟨e,rfl⟩⟩
 rw[if_neg e];by_cases e:q.op=16
 ·rw[if_pos e];unfold skR;rw[if_pos h];exact⟨h,.inl rfl⟩
 rw[if_neg e];by_cases e:q.op=17
 ·rw[if_pos e];unfold trR;rw[if_pos h];exact⟨h,.inl rfl⟩
 rw[if_neg e];by_cases e:q.op=18
 ·rw[if_pos e];unfold clR;split<;>exact⟨rfl,.inl rfl⟩
 rw[if_neg e]
 repeat' apply iteS (Q:=λr:FX×SM.Ans=>r.1.cl=true/\(r.1.pos=x.pos\/(q.op=15/\r.1.pos=q.off)))
 all_goals exact⟨h,.inl rfl⟩
theorem zsT{x:FX}(h:x.cl=false)(q:SM.Stp):(onX x q).1.cl=true->q.op=18/\(onX x q).1.pos=x.pos:=by
 have hc:¬x.cl=true:=by rw[h];exact Bool.false_ne_true
 unfold onX;by_cases e:q.op=12
 ·rw[if_pos e];unfold rdR;rw[if_neg hc];exactλc=>absurd c hc
 rw[if_neg e];by_cases e:q.op=13
 ·rw[if_pos e];exactλc=>absurd c hc
 rw[if_neg e];by_cases e:q.op=14
 ·rw[if_pos e];unfold wrR;rw[if_neg hc];split<;>exactλc=>absurd c hc
 rw[if_neg e];by_cases e:q.op=15
 ·rw[if_pos e];unfold wrR;rw[if_neg (show¬({x with pos:=q.off}:FX).cl=true from hc)];split<;>exactλc=>absurd c hc
 rw[if_neg e];by_cases e:q.op=16
 ·rw[if_pos e];unfold skR;rw[if_neg hc];exactλc=>absurd c hc
 rw[if_neg e];by_cases e:q.op=17
 ·rw[if_pos e];unfold trR;rw[if_neg hc];repeat' split
  all_goals exactλc=>absurd c hc
 rw[if_neg e];by_cases e:q.op=18
 ·rw[if_pos e];unfold clR;split<;>exactλ_=>⟨e,rfl⟩
 rw[if_neg e]
 repeat' apply iteS (Q:=λr:FX×SM.Ans=>r.1.cl=true->q.op=18/\r.1.pos=x.pos)
 all_goals exactλc=>absurd c hc
theorem zs1{x:FX}{n:SM.Node}{h:SM.Hnd}{md:Value}{q:SM.Stp}{m:SM.Mem}(b:Bes x n h md)(hm:m.node h.node=n)(hop:12<=q.op/\q.op<=23)(hdl:q.data.length<=4096)(hsp:m.speaksFile h q=true)(hdir:n.dir=true->q.op≠19/\q.op≠20)
  (h1:n.data.length<=8192) (h2:n.name.length<=1000000) (h3:0<=n.mode/\n.mode<=4294967295) (h4:-8796093022208<=h.pos/\h.pos<=8796093022208):
  OkX x q/\Bes (onX x q).1 (zbf n h q).1 (zbf n h q).2.1 md/\(onX x q).2=(zbf n h q).2.2:=by
 obtain⟨b1,b2,b3,b4,b5,b6,b7,b8,b9,b10⟩:=b;have px:-8796093022208<=x.pos/\x.pos<=8796093022208:=by
  cases hc:h.cl with
  |false=>rw[b10.1 hc];exact h4
  |true=>exact b10.2 hc
 obtain⟨k1,k2,k3,k4,k5⟩:=zs8 x q;obtain⟨f1,f2⟩:=zi8 n h q;have f3:=(zi9 n h q).2;cases hd:n.dir with
 |false=>
  have R:Rel 4398046511104 x n h:=⟨b1,b2,b3,b4.trans hd,hd,b5,b6,b7,h1,h2,h3,b10.1,by omega,by omega,by omega⟩;have SP:=ztE hm hd hop hdl hsp;obtain⟨S1,S2⟩:=R.step SP;refine⟨R.okX SP (by omega),⟨S1.bytes,S1.cl,S1.ro,by rw[k4,f3,b4],S1.nm,S1.mode,S1.mt,by rw[k1,f1,b8],k2.trans b9,S1.pos,λhc=>?_⟩,S2⟩;have xc:(onX x q).1.cl=true:=by rw[S1.cl];exact hc
  cases hx:x.cl with
  |true=>
   rcases(zp9 hx q).2 with e|⟨e1,e2⟩
   ·rw[e];exact px
   ·rw[e2];have:=SP.wa e1;omega
  |false=>rw[(zsT hx q xc).2];exact px
 |true=>
  have ho:=hdir hd;have hops:q.op=18\/q.op=21\/q.op=22\/q.op=23:=by
   unfold SM.Mem.speaksFile at hsp;rw[hm]at hsp;simp only[hd,Bool.true_or,if_true]at hsp;by_cases c:q.op=18\/q.op=21\/q.op=22\/q.op=23
   ·exact c
   ·rw[if_neg (by omega),if_neg c]at hsp;cases hsp
  refine⟨⟨hop,λe=>by omega,by rw[b1];omega,by rw[b5];omega,by rw[b6];exact h3,by omega,λe=>by omega,by omega,λe=>by omega,λe=>by omega,λe=>by omega,λe=>by omega,λe=>by omega⟩,?_⟩;have hs:zna x=zqm n:=by unfold zna zqm;rw[b1,b4,b5,b6,b7,hd]
  rcases hops with e|e|e|e
  ·rw[ztB x e,znb e];refine⟨?_,rfl⟩;unfold clR;rw[b3];by_cases hr:h.ro=true
   ·rw[if_pos hr,if_pos hr];exact⟨b1,rfl,rfl,b4,b5,b6,b7,b8,b9,(λh=>by cases h),λ_=>px⟩
   ·rw[if_neg hr,if_neg hr];exact⟨b1,rfl,rfl,b4,b5,b6,rfl,b8,b9,(λh=>by cases h),λ_=>px⟩
  ·rw[ztA x e,znn e,hs];exact⟨⟨b1,b2,b3,b4,b5,b6,b7,b8,b9,b10⟩,rfl⟩
  ·rw[ztD x e,znj e,b5];exact⟨⟨b1,b2,b3,b4,b5,b6,b7,b8,b9,b10⟩,rfl⟩
  ·rw[ztv x e,znc e];exact⟨⟨b1,b2,b3,b4,b5,b6,b7,b8,b9,b10⟩,rfl⟩
section
variable{w w' w0:World}{F0:Fp}{K:Value->World->Prop}{B p mb:Nat}{s:PM.St}{rep:Nat->Rep}{se:Nat->Nat×Nat}
 {m:SM.Mem} {ps:List Nat} {hp:Int->Nat} {E:PM.Ex} {X:Option Str}
theorem PF.data(h:PF w B p s mb rep){y:Nat}{kk:Option (Str->Option Nat)}(hy:s.nd (pt' ps y)=some ⟨m.node y,kk⟩)(h1:0<=(m.node y).mode/\(m.node y).mode<=4294967295)(h2:(m.node y).name.length<=140737488355328):DataAt w (pt' ps y) (m.node y).name (m.info y):=by have N:=h.node _ _ hy;obtain⟨u,g,hb⟩:=N.bd;obtain⟨a,c,ev⟩:=zal N.own;refine⟨a,(m.node y).data.length,c,mdV kk (rep (pt' ps y)).kb,(m.node y).dir,(m.node y).mode,(m.node y).time,u,g,?_,h1.1,h1.2,h2,rfl⟩;rw[hb];simp only[qC,ev]
theorem zn8(wf:SM.Wf m)(l:Str):(m.children l).Pairwise (·<·):=wf.srt.filter _
theorem zsE(h:PF w B p s mb rep)(r:PM.Rel s m ps hp [] none){x:Nat}(hf:m.find (m.node x).name=some x)(hd:(m.node x).dir=true)(hN:m.names.length<=900000)(hmd:∀y,y<m.nodes.length->0<=(m.node y).mode/\(m.node y).mode<=4294967295)(hnl:∀y,y<m.nodes.length->(m.node y).name.length<=1000000):
  ∃kk,s.nd (pt' ps x)=some ⟨m.node x,some kk⟩/\DirAt w (rep (pt' ps x)).kb kk (m.children (m.node x).name) (λq=>m.info ((m.find q).getD 0)):=by
 obtain⟨k,k1,k2⟩:=r.nd x (r.lt hf);rcases k2 with⟨k2,_⟩|⟨_,kk,rfl,k3⟩
 ·rw[hd]at k2;cases k2
 have k3:=k3 hf;have N:=h.node _ _ k1;obtain⟨_,M,c,a1,a2,a3⟩:=N.kid kk rfl;refine⟨kk,k1,⟨M,c,a1,a2,a3⟩,λq e he=>?_,zn8 r.mi.wf _,λq=>?_,Nat.le_trans (List.length_filter_le _ _) hN⟩
 ·rw[k3 q (λh=>by cases h)]at he;by_cases c:q≠[47]/\SM.parent q=(m.node x).name
  ·rw[if_pos c]at he;obtain⟨y,hy,rfl⟩:=Option.map_eq_some_iff.1 he;obtain⟨ky,ky1,_⟩:=r.nd y (r.lt hy);have:=h.data ky1 (hmd y (r.lt hy)) (by have:=hnl y (r.lt hy);omega);rw[r.mi.nm q y hy]at this;rw[hy];exact this
  ·rw[if_neg c]at he;cases he
 ·rw[SM.ziW r.mi.wf,k3 q (λh=>by cases h)];constructor
  ·rintro⟨⟨y,hy⟩,h1,h2⟩;rw[if_pos ⟨h1,h2⟩,hy];rfl
  ·intro hq;by_cases c:q≠[47]/\SM.parent q=(m.node x).name
   ·rw[if_pos c,Option.isSome_map]at hq;obtain⟨y,hy⟩:=Option.isSome_iff_exists.1 hq;exact⟨⟨y,hy⟩,c.1,c.2⟩
   ·rw[if_neg c]at hq;cases hq
theorem zrn(q:Str)(x:Nat)(h:(m.node x).name=q):(m.info x).name=SM.base q:=by rw[<-h];rfl
theorem hstep{k:Int}{hd:SM.Hnd}{q:SM.Stp}{x:Value}(h:PT w0 F0 w B p s mb rep se)(r:PM.Rel s m ps hp [] none)(hg:SM.hget m.hs k=some hd)(hx:BS w x q.data)(hop:12<=q.op/\q.op<=23)(hsp:m.speaksFile hd q=true)(hdl:q.data.length<=4096)
  (hN:m.names.length<=900000) (hmd:∀y,y<m.nodes.length->0<=(m.node y).mode/\(m.node y).mode<=4294967295) (hnl:∀y,y<m.nodes.length->(m.node y).name.length<=1000000) (hdt:(m.node hd.node).data.length<=8192) (hps:-8796093022208<=hd.pos/\hd.pos<=8796093022208) (hls:0<=hd.listed)
  (hk:∀w' c s' rep',PT w0 F0 w' B p s' mb rep' se->PM.Rel s' (m.fileS k hd q).1 ps hp [] none->AnsN w' w.heap.size (Own p mb s' rep') (m.fileS k hd q).2 c->K (AG c) w'):Cl P Fn.du #[pt (hp k) 0,AG (zba q x)] w K:=by
 obtain⟨hl,pos,hpos,hsf⟩:=r.hs.at_ k hd hg;obtain⟨kk,hnd,_⟩:=r.nd hd.node hl;obtain⟨u,g,H⟩:=h.pf.file hsf hnd;have bes:Bes (fxOf ⟨m.node hd.node,kk⟩ (rep (pt' ps hd.node)) ⟨pt' ps hd.node,pos,hd.listed,hd.cl,hd.ro⟩ u g) (m.node hd.node) hd (mdV kk (rep (pt' ps hd.node)).kb):=⟨rfl,rfl,rfl,rfl,rfl,rfl,rfl,rfl,rfl,hpos⟩;obtain⟨X0,hX0⟩:∃X0,X0=fxOf ⟨m.node hd.node,kk⟩ (rep (pt' ps hd.node)) ⟨pt' ps hd.node,pos,hd.listed,hd.cl,hd.ro⟩ u g:=⟨_,rfl⟩;rw[<-hX0]at H bes
 --what remains to be told,once a step has been made
 have fin:∀(X':FX)(n':SM.Node)(h':SM.Hnd)(a:SM.Ans)(w':World)(v':Value)(c:List Value),FH w' B (hp k) (pt' ps hd.node) v' X'->Kp w w' (Of (hp k) (pt' ps hd.node) (rep (pt' ps hd.node)).v)->zmm w (rep (pt' ps hd.node)).v v'->AnsN w' w.heap.size (Of (hp k) (pt' ps hd.node) v') a c->
   Bes X' n' h' (mdV kk (rep (pt' ps hd.node)).kb)->n'.name=(m.node hd.node).name->n'.dir=(m.node hd.node).dir->h'.node=hd.node->m.fileS k hd q=((m.setNode hd.node n').setH k h',a)->K (AG c) w':=by
  intro X' n' h' a w' v' c F K' O A b e1 e2 e3 ef;have P1:=h.fileDone hsf hnd F K' O b.md;have en:(⟨X'.dir,X'.mode,X'.bytes,X'.mt,X'.nm⟩:SM.Node)=n':=by rw[b.dir,b.mode,b.bytes,b.mt,b.nm]
  rw[en]at P1;have R1:=r.setNode (n:=n') hl hnd e1 e2;obtain⟨_,s2,_,s4⟩:=SM.za3 m hd.node n';have R2:=R1.setH (i:=k) (h0:=hd) (h:=h') (pos:=X'.pos) (by rw[s4];exact hg) e3 b.pos;refine hk w' c _ _ P1 ?_ ?_
  ·rw[ef];rw[e3]at R2;rw[b.rdc,b.cl,b.ro];exact R2
  ·rw[ef];obtain⟨x1,y1,z1,a1,a2,a3,a4,a5⟩:=A;refine⟨x1,y1,z1,a1,a2,a3,a4,λbb hb=>?_⟩;obtain⟨c1,c2,c3⟩:=a5 bb hb;refine⟨c1,c2,λho=>?_⟩;have hw:=h.pf.lt;rcases ho with ho|ho|⟨e,ne,he,ho⟩|⟨hh,ho⟩
   ·have:=(hw bb (.inl ho)).2;omega
   ·have:=(hw bb (.inr (.inl ho))).2;omega
   ·simp only[St.setNd,St.setH]at he;simp only at ho;by_cases ce:e=pt' ps hd.node
    ·rw[if_pos ce]at ho;rcases ho with ho|ho|⟨_,ho⟩
     ·exact c3 (.inr (.inl (by rw[ho,ce])))
     ·exact c3 (.inr (.inr ho))
     ·rename_i hks;rw[if_pos ce]at he;injection he with he;rw[<-he]at hks;have:=(hw bb (.inr (.inr (.inl ⟨_,_,hnd,.inr (.inr ⟨hks,ho⟩)⟩)))).2;omega
    ·rw[if_neg ce]at he ho;have:=(hw bb (.inr (.inr (.inl ⟨e,ne,he,ho⟩)))).2;omega
   ·simp only[St.setH]at ho;by_cases ce:bb=hp k
    ·exact c3 (.inl ce)
    ·rw[if_neg ce]at ho;have:=(hw bb (.inr (.inr (.inr ⟨hh,ho⟩)))).2;omega
 by_cases hlist:(m.node hd.node).dir=true/\(q.op=19\/q.op=20)
 ·obtain⟨hdir,ho⟩:=hlist;have hsp2:m.find (m.node hd.node).name=some hd.node/\hd.listed<=(m.children (m.node hd.node).name).length:=by unfold SM.Mem.speaksFile at hsp;simp only at hsp;rw[if_pos ho,hdir]at hsp;simpa using hsp
  obtain⟨kk',hnd',D⟩:=zsE h.pf r hsp2.1 hdir hN hmd hnl;rw[hnd]at hnd';injection hnd' with hnd';have ekk:kk=some kk':=congrArg PM.Nd.kids hnd';obtain⟨c0,hc0⟩:∃c0:Nat,hd.listed=c0:=⟨hd.listed.toNat,by omega⟩;have hc0l:c0<=(m.children (m.node hd.node).name).length:=by have:=hsp2.2;omega
  refine on_list (L:=m.children (m.node hd.node).name) (inf:=λq=>m.info ((m.find q).getD 0)) (k:=kk') (c0:=c0) H h.sn (by rw[bes.dir];exact hdir) (by rw[bes.md,ekk];rfl) D (by rw[bes.rdc];exact hc0) hc0l (λq hq=>?_) ho hx λw' v' c F K' O A=>?_
  ·obtain⟨⟨y,hy⟩,_⟩:=(SM.ziW r.mi.wf _ _).1 hq;rw[hy];exact zrn q y (r.mi.nm q y hy)
  ·obtain⟨b1,b2,b3,b4,b5,b6,b7,b8,b9,b10⟩:=bes;refine fin _ (m.node hd.node) {hd with listed:=hd.listed+(lsL (m.children (m.node hd.node).name) c0 q.n).length} _ w' v' c F K' O A ⟨b1,b2,b3,b4,b5,b6,b7,by rw[b8],b9,b10⟩ rfl rfl rfl ?_;rw[ziI hl];unfold SM.Mem.fileS;rw[if_neg (by omega),if_neg (by omega),if_neg (by omega),if_neg (by omega),if_pos ho];unfold SM.Mem.listS;simp only
   rw[if_neg (by rw[hdir];simp)];have e1:(min hd.listed ((m.children (m.node hd.node).name).length:Int)).toNat=c0:=by omega
   rw[e1];unfold lsA lsE lsL;by_cases c20:q.op=20
   ·simp only[if_pos c20]
   ·simp only[if_neg c20]
 ·obtain⟨ok,b',ea⟩:=zs1 bes rfl hop hdl hsp (λe=>⟨λo=>hlist ⟨e,.inl o⟩,λo=>hlist ⟨e,.inr o⟩⟩) hdt (hnl _ hl) (hmd _ hl) hps;obtain⟨f1,f2⟩:=zi9 (m.node hd.node) hd q;refine on_any H h.sn ok hx λw' v' c F K' O A=>?_;rw[ea]at A;refine fin _ _ _ _ w' v' c F K' O A b' (zi8 _ _ _).2 f2 f1 ?_;exact znx q hg hl λo=>by
   cases e:(m.node hd.node).dir with
   |false=>rfl
   |true=>exact absurd ⟨e,o⟩ hlist
end
end Go.Proofs.YtdljebgllipdjaaGreatDoor.X
end
section
namespace Go.Proofs.YtdljebgllipdjaaGreatDoor.X
open Go Go.X Go.Proofs Go.RowKit
def StepsAt(w:World)(v:Value)(qs:List SM.Stp)(vs:List Value):Prop:=vs.length=qs.length/\(∀i(h1:i<qs.length)(h2:i<vs.length),BS w vs[i] qs[i].data)/\((qs=[]/\∃a cap,v=.slice a 0 cap)\/∃b o cap,v=sl b o qs.length cap/\b<w.heap.size/\∀i(h1:i<qs.length)(h2:i<vs.length),zaY (bk w b) (o+i*10) 10=some (zba qs[i] vs[i]))
theorem StepsAt.old{w w':World}{v:Value}{qs:List SM.Stp}{vs:List Value}(h:StepsAt w v qs vs)(hb:Below w.heap.size w w'):StepsAt w' v qs vs:=by
 refine⟨h.1,λi h1 h2=>zct (h.2.1 i h1 h2) hb (Nat.le_refl _),?_⟩;rcases h.2.2 with h|⟨b,o,cap,h1,h2,h3⟩
 ·exact .inl h
 ·exact .inr ⟨b,o,cap,h1,Nat.lt_of_lt_of_le h2 hb.size,λi g1 g2=>by rw[zaH hb h2];exact h3 i g1 g2⟩
theorem StepsAt.slice{w:World}{v:Value}{qs:List SM.Stp}{vs:List Value}(h:StepsAt w v qs vs):∃a cap,v=.slice a qs.length cap:=by
 rcases h.2.2 with⟨h,a,cap,e⟩|⟨b,o,cap,e,_⟩
 ·exact⟨a,cap,by rw[e,h];rfl⟩
 ·exact⟨_,_,e⟩
theorem StepsAt.idx{w:World}{v:Value}{qs:List SM.Stp}{vs:List Value}(h:StepsAt w v qs vs){i:Nat}(hi:i<qs.length)(hv:i<vs.length):
  ∃b o,zaY (bk w b) o 10=some (zba qs[i] vs[i])/\b<w.heap.size/\∀L:Value->Prop,pu P (zaO T.aO v (.int .i64 i)) L=L (pt b o):=by
 rcases h.2.2 with⟨h,_⟩|⟨b,o,cap,rfl,hb,hr⟩
 ·rw[h]at hi;exact absurd hi (by simp)
 ·refine⟨b,o+i*10,hr i hi hv,hb,λL=>?_⟩;rw[zhn (size:=10) L U.ay (by kernel_rfl) (by omega) (by omega),Int.toNat_natCast]
section
variable{σ:Type}
def okX(stp:σ->SM.Stp->σ×SM.Ans)(ok:σ->SM.Stp->Prop):σ->List SM.Stp->Prop
 |_,[]=>True
 |s,q::qs=>ok s q/\okX stp ok (stp s q).1 qs
def AnsAt(w:World)(lo:Nat)(N:Nat->Prop)(az:List SM.Ans)(cs:List (List Value)):Prop:=cs.length=az.length/\∀i(h1:i<cs.length)(h2:i<az.length),AnsN w lo N az[i] cs[i]
theorem AnsAt.kp{w w':World}{lo:Nat}{N S:Nat->Prop}{az:List SM.Ans}{cs:List (List Value)}(h:AnsAt w lo N az cs)(k:Kp w w' S)(hS:∀b,lo<=b->b<w.heap.size->¬N b->¬S b):AnsAt w' lo N az cs:=⟨h.1,λi h1 h2=>(h.2 i h1 h2).kp k hS⟩
theorem AnsAt.to{w:World}{lo:Nat}{N M:Nat->Prop}{az:List SM.Ans}{cs:List (List Value)}(h:AnsAt w lo N az cs)(hM:∀b,lo<=b->b<w.heap.size->¬N b->¬M b):AnsAt w lo M az cs:=⟨h.1,λi h1 h2=>(h.2 i h1 h2).to hM⟩
theorem AnsAt.snoc{w:World}{lo:Nat}{N:Nat->Prop}{az:List SM.Ans}{cs:List (List Value)}(h:AnsAt w lo N az cs){a:SM.Ans}{c:List Value}(ha:AnsN w lo N a c):AnsAt w lo N (az++[a]) (cs++[c]):=by
 refine⟨by simp[h.1],λi h1 h2=>?_⟩;by_cases hi:i<cs.length
 ·rw[List.getElem_append_left hi,List.getElem_append_left (by rw[<-h.1];exact hi)];exact h.2 i hi _
 ·have e1:i=cs.length:=by simp at h1;omega
  subst e1;have e2:(cs++[c])[cs.length]=c:=by simp
  have e3:(az++[a])[cs.length]'h2=a:=by simp[h.1]
  rw[e2,e3];exact ha
theorem zin{w:World}{lo:Nat}{N:Nat->Prop}{a:SM.Ans}{c:List Value}(h:AnsN w lo N a c):c.length=6/\∀u∈c,u.oneCell'=true:=by obtain⟨x,y,z,rfl,hx,hy,hz,_⟩:=h;obtain⟨p1,c1,rfl⟩:=zaK hx;obtain⟨p2,c2,rfl⟩:=za8 hy;obtain⟨p3,c3,rfl⟩:=za8 hz;refine⟨rfl,λu hu=>?_⟩;simp only[zbv,List.mem_cons,List.not_mem_nil,or_false]at hu;rcases hu with rfl|rfl|rfl|rfl|rfl|rfl<;>rfl
end
end Go.Proofs.YtdljebgllipdjaaGreatDoor.X
end
section
namespace Go.Proofs.YtdljebgllipdjaaGreatDoor.X
open Go Go.X Go.Proofs Go.RowKit Go.X.PM Go.Lib
section
variable{w w' w0:World}{F0 F:Fp}{K:Value->World->Prop}{B p mb hb:Nat}{s:PM.St}{rep:Nat->Rep}{se:Nat->Nat×Nat}
 {Tz:Nat->Prop} {m m':SM.Mem} {ps:List Nat} {hp hp':Int->Nat} {E:PM.Ex} {X:Option Str}
theorem FsT.start(h:FsT w0 F0 w B p m hp se):∃F,FsT w F w B p m hp se/\Tr w0 w F0 F/\∀b,F.own b->B<=b/\b<w.heap.size:=by
 rcases h with⟨s,mb,rep,ps,h,r⟩|h
 ·exact⟨_,.inl ⟨s,mb,rep,ps,h.rebase,r⟩,h.tr,λb hb=>h.pf.lt b hb⟩
 ·refine⟨⟨(·=p),(·=p)⟩,.inr ⟨h.hp,h.bp,h.m0,Tr.refl _ _,h.sn⟩,h.tr,λb hb=>?_⟩;have e:b=p:=hb;rw[e];exact⟨h.hp,zai h.bp⟩
theorem FsT.sn(h:FsT w0 F0 w B p m hp se):Sn w B se:=by
 rcases h with⟨s,mb,rep,ps,h,r⟩|h
 ·exact h.sn
 ·exact h.sn
theorem FsT.tr(h:FsT w0 F0 w B p m hp se):Kp w0 w F0.own:=by
 rcases h with⟨s,mb,rep,ps,h,r⟩|h
 ·exact h.tr.kp
 ·exact h.tr.kp
theorem FsT.again{S:Nat->Prop}(h:FsT w F w B p m hp se)(k:Kp w w' S)(hS:∀b,F.own b->¬S b)(hB:∀b,S b->B<=b):∃F',FsT w' F' w' B p m hp se/\∀b,F'.own b->F.own b/\B<=b/\b<w.heap.size:=by
 have kb:Below B w w':=k.below (λb hb hs=>absurd (hB b hs) (by omega)) (by
  rcases h with⟨s,mb,rep,ps,h,r⟩|h
  ·exact h.pf.le
  ·have:=h.hp;have:=zai h.bp;omega)
 rcases h with⟨s,mb,rep,ps,h,r⟩|h
 ·have own:∀b,Own p mb s rep b->F.own b:=λb hb=>(h.tr.st b (h.pf.lt b hb).2).1 hb;have pf:=h.pf.kp k λb hb=>hS b (own b hb);exact⟨_,.inl ⟨s,mb,rep,ps,PT.start pf (h.sn.below kb),r⟩,λb hb=>⟨own b hb,h.pf.lt b hb⟩⟩
 ·have own:F.own p:=(h.tr.st p (zai h.bp)).1 rfl;refine⟨⟨(·=p),(·=p)⟩,.inr ⟨h.hp,(k.block p (zai h.bp) (hS p own)).trans h.bp,h.m0,Tr.refl _ _,h.sn.below kb⟩,λb hb=>?_⟩;have e:b=p:=hb;rw[e];exact⟨own,h.hp,zai h.bp⟩
structure MJ(w0 w:World)(p hb:Nat)(m:SM.Mem)(hp:Int->Nat)(se:Nat->Nat×Nat)(F:Fp):Prop where
 fs:FsT w F w w0.heap.size p m hp se
 own:∀b,F.own b->w0.heap.size<=b/\b<w.heap.size
 hbn:¬F.own hb/\w0.heap.size<=hb
 map:∃M c,bk w hb=some (MO emI M c)/\MWF M c/\∀j,mget M j=(SM.hget m.hs j).map λ_=>pt (hp j) 0
 bel:Below w0.heap.size w0 w
structure MO9(w0 w:World)(hb:Nat)(Tz:Nat->Prop)(F:Fp)(av:Value)(n:Nat)(az:List SM.Ans)(cs:List (List Value)):Prop where
 o:w.ownsRow w0.heap.size T.ab 6 av n (List.flatten cs)
 nF:∀b,av.ownBlock=some b->¬F.own b
 len:az.length=n
 ans:AnsAt w w0.heap.size (λb=>F.own b\/b=hb\/av.ownBlock=some b\/Tz b) az cs
theorem MO9.nhb{av:Value}{n:Nat}{az:List SM.Ans}{cs:List (List Value)}(h:MO9 w0 w hb Tz F av n az cs){M:ML Int}{c:Nat}(hm:bk w hb=some (MO emI M c)):av.ownBlock≠some hb:=λe=>by obtain⟨cur,hc⟩:=zfU h.o e;rw[hm]at hc;cases hc
theorem MJ.old(h:MJ w0 w p hb m hp se F)(k:Below w.heap.size w w'):∃F',MJ w0 w' p hb m hp se F'/\∀b,F'.own b->F.own b:=by obtain⟨F',f1,f2⟩:=h.fs.again (S:=λ_=>False) (Kp.of_below k _) (λb _ h=>h) λb h=>h.elim;obtain⟨M,c,m1,m2,m3⟩:=h.map;refine⟨F',⟨f1,λb hb=>?_,⟨λe=>h.hbn.1 (f2 hb e).1,h.hbn.2⟩,⟨M,c,(zaH k (zai m1)).trans m1,m2,m3⟩,h.bel.trans (k.mono h.bel.size)⟩,λb hb=>(f2 b hb).1⟩;have:=h.own b (f2 b hb).1;exact⟨this.1,Nat.lt_of_lt_of_le this.2 k.size⟩
theorem MJ.after(h:MJ w0 w p hb m hp se F)(h':FsT w F w' w0.heap.size p m' hp' se)(hm:∀j,(SM.hget m'.hs j).map (λ_=>pt (hp' j) 0)=(SM.hget m.hs j).map λ_=>pt (hp j) 0):∃F',MJ w0 w' p hb m' hp' se F'/\Kp w w' F.own/\∀b,b<w.heap.size->F'.own b->F.own b:=by obtain⟨F',f1,f2,f3⟩:=h'.start;obtain⟨M,c,m1,m2,m3⟩:=h.map;have k:=f2.kp;refine⟨F',⟨f1,f3,⟨λe=>h.hbn.1 ((f2.st hb (zai m1)).1 e),h.hbn.2⟩,⟨M,c,(k.block hb (zai m1) h.hbn.1).trans m1,m2,λj=>by rw[m3,hm]⟩,h.bel.trans (k.below (λb hb e=>by have:=(h.own b e).1;omega) h.bel.size)⟩,k,λb hb=>(f2.st b hb).1⟩
theorem MO9.old{F':Fp}{av:Value}{n:Nat}{az:List SM.Ans}{cs:List (List Value)}(h:MO9 w0 w hb Tz F av n az cs)(k:Below w.heap.size w w')(hF:∀b,F'.own b->F.own b):MO9 w0 w' hb Tz F' av n az cs:=by
 refine⟨zbe h.o k (Nat.le_refl _),λb hb e=>h.nF b hb (hF b e),h.len,AnsAt.to (AnsAt.kp h.ans (Kp.of_below k λb=>w.heap.size<=b) λb _ h1 _ h2=>?_) λb _ _ hn=>?_⟩
 ·omega
 ·rintro(e|e)
  ·exact hn (.inl (hF b e))
  ·exact hn (.inr e)
theorem MO9.after{F':Fp}{av:Value}{n:Nat}{az:List SM.Ans}{cs:List (List Value)}(h:MO9 w0 w hb Tz F av n az cs)(k:Kp w w' F.own)(hF:∀b,b<w.heap.size->F'.own b->F.own b):MO9 w0 w' hb Tz F' av n az cs:=by
 have a1:AnsAt w w0.heap.size (λb=>(F.own b\/F'.own b)\/b=hb\/av.ownBlock=some b\/Tz b) az cs:=AnsAt.to h.ans λb _ hl hn=>by
  rintro((e|e)|e)
  ·exact hn (.inl e)
  ·exact hn (.inl (hF b hl e))
  ·exact hn (.inr e)
 have a2:AnsAt w' w0.heap.size (λb=>(F.own b\/F'.own b)\/b=hb\/av.ownBlock=some b\/Tz b) az cs:=AnsAt.kp a1 k λb _ _ hn e=>hn (.inl (.inl e));refine⟨zbR h.o k h.nF,λb hb e=>h.nF b hb (hF b (zaV h.o b hb).2 e),h.len,AnsAt.to a2 λb _ _ hn=>?_⟩;rintro(e|e)
 ·exact hn (.inl (.inr e))
 ·exact hn (.inr e)
theorem mapPut(hbn:¬F.own hb/\w0.heap.size<=hb)(hmap:∃M c,bk w hb=some (MO emI M c)/\MWF M c/\∀j,mget M j=(SM.hget m.hs j).map λ_=>pt (hp j) 0)(hbel:Below w0.heap.size w0 w){av:Value}{n:Nat}{az:List SM.Ans}{cs:List (List Value)}(g:MO9 w0 w hb Tz F av n az cs)(i:Int)(f:Nat)(hf:FsT w F w w0.heap.size p m' hp' se)(hm:∀j,(SM.hget m'.hs j).map (λ_=>pt (hp' j) 0)=if j=i then some (pt f 0)else(SM.hget m.hs j).map λ_=>pt (hp j) 0){L:Value->World->Prop}
  (hk:∀w' F',MJ w0 w' p hb m' hp' se F'->MO9 w0 w' hb Tz F' av n az cs->Kp w w' (·=hb)->(∀b,F'.own b->F.own b)->L undef w'):st P (zd9 T.aS (.map (some hb)) (.int .i64 i) (pt f 0)) w L:=by
 obtain⟨M,c,m1,m2,m3⟩:=hmap;rw[show(Value.int .i64 i)=emI i from rfl,zle _ U.aB (zpx U.int) m1];have k:=Kp.setb w hb (MO emI (zh1 M i (pt f 0) c) (zjc M i c));obtain⟨F',f1,f2⟩:=hf.again (w':=setb w hb (MO emI (zh1 M i (pt f 0) c) (zjc M i c))) k (λb hb e=>hbn.1 (by rw[<-e];exact hb)) λb e=>by rw[e];exact hbn.2
 refine hk _ F' ⟨f1,λb hb=>⟨(f2 b hb).2.1,by rw[sZb];exact(f2 b hb).2.2⟩,⟨λe=>hbn.1 (f2 hb e).1,hbn.2⟩,⟨_,_,zar _ _ _ _ rfl (zai m1),m2.put _ _,λj=>?_⟩,zag hbel hbn.2 _⟩ ⟨zbR g.o k λb hb e=>g.nhb m1 (by rw[<-e];exact hb),λb hb e=>g.nF b hb (f2 b e).1,g.len,AnsAt.kp (AnsAt.to g.ans λb _ _ hn=>?_) k λb _ _ hn e=>hn (.inr (.inl e))⟩ k λb hb=>(f2 b hb).1
 ·rw[zi3,m3,hm]
 ·rintro(e|e)
  ·exact hn (.inl (f2 b e).1)
  ·exact hn (.inr e)
theorem MJ.afterPut(h:MJ w0 w p hb m hp se F){av:Value}{n:Nat}{az:List SM.Ans}{cs:List (List Value)}(g:MO9 w0 w hb Tz F av n az cs)(h':FsT w F w' w0.heap.size p m' hp' se)(i:Int)(f:Nat)(hm:∀j,(SM.hget m'.hs j).map (λ_=>pt (hp' j) 0)=if j=i then some (pt f 0)else(SM.hget m.hs j).map λ_=>pt (hp j) 0){L:Value->World->Prop}
  (hk:∀w2 F',MJ w0 w2 p hb m' hp' se F'->MO9 w0 w2 hb Tz F' av n az cs->(∀b,b<w.heap.size->¬F.own b->b≠hb->bk w2 b=bk w b/\¬F'.own b)->L undef w2):st P (zd9 T.aS (.map (some hb)) (.int .i64 i) (pt f 0)) w' L:=by
 obtain⟨F',f1,f2,f3⟩:=h'.start;obtain⟨M,c,m1,m2,m3⟩:=h.map;have k:=f2.kp;have hF:∀b,b<w.heap.size->F'.own b->F.own b:=λb hb=>(f2.st b hb).1;refine mapPut (m:=m) (hp:=hp) (m':=m') (hp':=hp') ⟨λe=>h.hbn.1 (hF hb (zai m1) e),h.hbn.2⟩ ⟨M,c,(k.block hb (zai m1) h.hbn.1).trans m1,m2,m3⟩ (h.bel.trans (k.below (λb hb e=>by have:=(h.own b e).1;omega) h.bel.size)) (g.after k hF) i f f1 hm λw2 F2 J2 G2 k2 e2=>hk w2 F2 J2 G2 λb hb hn hne=>⟨?_,λe=>hn (hF b hb (e2 b e))⟩;have z:=k.size;rw[k2.block b (by omega) hne,k.block b hb hn]
theorem ztG(h:MJ w0 w p hb m hp se F){av:Value}{n:Nat}{az:List SM.Ans}{cs:List (List Value)}(g:MO9 w0 w hb Tz F av n az cs)(hn:n<=1000000){a:SM.Ans}{c:List Value}(hA:AnsN w w0.heap.size (λb=>F.own b\/b=hb\/av.ownBlock=some b\/Tz b) a c){k3:List Value->World->Prop}
  (hk:∀w' av' cs' F',MJ w0 w' p hb m hp se F'->MO9 w0 w' hb Tz F' av' (n+1) (az++[a]) cs'->k3 [av'] w'):
  st P (zam T.aI 1 #[(0,AG c)]) w λt41 w67=>st P (zac .append #[T.aI,T.aI] T.aI #[false,false] #[av,t41]) w67 λt42 w68=>k3 [t42] w68:=by
 obtain⟨cl,c1⟩:=zin hA;rw[zbH (size:=6) (z:=AG ansZ) _ _ U.am (by kernel_rfl) (by omega) (by omega) (l:=c) cl];obtain⟨w6,e6⟩:∃w6,w6=w.alloc (CB c T.ab):=⟨_,rfl⟩;have B56:Below w.heap.size w w6:=by rw[e6];repeat (first|exact Below.refl _ _|assumption|refine zag ?_ (by first|omega|(simp only[go_sem]<;>omega)) _|refine Below.alloc ?_ (by first|omega|(simp only[go_sem]<;>omega)) _|refine Below.drew ?_)
 have z6:w6.heap.size=w.heap.size+1:=by rw[e6];simp only[go_sem]
 have r6:bk w6 w.heap.size=some (CB c T.ab):=by rw[e6];exact zah _ _ _ rfl
 rw[<-e6];clear e6;have z0:=h.bel.size;obtain⟨F6,h6,hF6⟩:=h.old B56;have g6:=g.old B56 hF6;obtain⟨M,cc,m1,_,_⟩:=h6.map;have hA6:AnsN w6 w0.heap.size (λb=>F.own b\/b=hb\/av.ownBlock=some b\/Tz b) a c:=hA.kp (Kp.of_below B56 λb=>w.heap.size<=b) λb _ h1 _ h2=>by omega
 refine zbO (size:=6) (bytes:=96) (z:=AG ansZ) (news:=c) U.am (by kernel_rfl) rfl (by omega) g6.o (.inl ⟨_,_,_,rfl,by rw[r6];simp only[zaY];rw[if_pos (by simp)];simp⟩) cl c1 (by simp only[maxLen];omega) (by omega) (by omega) λav6 w7 o6 g7 l6=>?_;have K7:=Kp.of_grown g7;have hav6:∀k,av6.ownBlock=some k->av.ownBlock=some k\/w6.heap.size<=k:=λk hk=>by
  rcases l6 with h|h
  ·exact .inl (by rw[<-h];exact hk)
  ·rw[hk]at h;injection h with h;exact .inr (by omega)
 obtain⟨F7,f1,f2⟩:=h6.fs.again K7 (λb hb e=>g6.nF b e hb) λb e=>(zaV g6.o b e).1;obtain⟨M,c0,m1,m2,m3⟩:=h6.map;have nav:¬av.ownBlock=some hb:=g6.nhb m1;have z7:=K7.size;have M7:MJ w0 w7 p hb m hp se F7:=⟨f1,λb hb=>⟨(f2 b hb).2.1,by have:=(f2 b hb).2.2;omega⟩,⟨λe=>h6.hbn.1 (f2 hb e).1,h6.hbn.2⟩,⟨M,c0,(K7.block hb (zai m1) nav).trans m1,m2,m3⟩,h6.bel.trans (K7.below (λk hk e=>by have:=(zaV g6.o k e).1;omega) h6.bel.size)⟩;have lhb:=zai m1;have sub:∀b,b<w6.heap.size->¬(F.own b\/b=hb\/av.ownBlock=some b\/Tz b)->¬(F7.own b\/b=hb\/av6.ownBlock=some b\/Tz b):=λb hb hn e=>by
  rcases e with e|e|e|e
  ·exact hn (.inl (hF6 b (f2 b e).1))
  ·exact hn (.inr (.inl e))
  ·rcases hav6 b e with q|q
   ·exact hn (.inr (.inr (.inl q)))
   ·omega
  ·exact hn (.inr (.inr (.inr e)))
 have sub6:∀b,b<w6.heap.size->¬(F6.own b\/b=hb\/av.ownBlock=some b\/Tz b)->¬(F7.own b\/b=hb\/av6.ownBlock=some b\/Tz b):=λb hb hn e=>by
  rcases e with e|e|e|e
  ·exact hn (.inl (f2 b e).1)
  ·exact hn (.inr (.inl e))
  ·rcases hav6 b e with q|q
   ·exact hn (.inr (.inr (.inl q)))
   ·omega
  ·exact hn (.inr (.inr (.inr e)))
 obtain⟨N7,hN7⟩:∃N7:Nat->Prop,N7=λb=>F7.own b\/b=hb\/av6.ownBlock=some b\/Tz b:=⟨_,rfl⟩;have b1:AnsAt w6 w0.heap.size (λb=>av.ownBlock=some b\/N7 b) az cs:=AnsAt.to g6.ans λb _ hl hn e=>by
  rcases e with e|e
  ·exact hn (.inr (.inr (.inl e)))
  ·rw[hN7]at e;exact sub6 b hl hn e
 have b2:AnsN w6 w0.heap.size (λb=>av.ownBlock=some b\/N7 b) a c:=AnsN.to hA6 λb _ hl hn e=>by
  rcases e with e|e
  ·exact hn (.inr (.inr (.inl e)))
  ·rw[hN7]at e;exact sub b hl hn e
 have b3:AnsAt w7 w0.heap.size N7 (az++[a]) (cs++[c]):=AnsAt.snoc (AnsAt.to (AnsAt.kp b1 K7 λb _ _ hn e=>hn (.inl e)) λb _ _ hn e=>hn (.inr e)) (AnsN.to (AnsN.kp b2 K7 λb _ _ hn e=>hn (.inl e)) λb _ _ hn e=>hn (.inr e));rw[hN7]at b3;refine hk w7 av6 (cs++[c]) F7 M7 ⟨?_,λb hb e=>?_,by simp[g.len],b3⟩
 ·rw[List.flatten_append];simpa using o6
 ·have q:=f2 b e;rcases hav6 b hb with z|z
  ·exact g6.nF b z q.1
  ·omega
theorem MO9.tz{Tz':Nat->Prop}{av:Value}{n:Nat}{az:List SM.Ans}{cs:List (List Value)}(h:MO9 w0 w hb Tz F av n az cs)(hT:∀b,b<w.heap.size->Tz' b->Tz b):MO9 w0 w hb Tz' F av n az cs:=
 ⟨h.o,h.nF,h.len,AnsAt.to h.ans λb _ hl hn e=>by
  rcases e with e|e|e|e
  ·exact hn (.inl e)
  ·exact hn (.inr (.inl e))
  ·exact hn (.inr (.inr (.inl e)))
  ·exact hn (.inr (.inr (.inr (hT b hl e))))⟩
theorem zrp(h:MJ w0 w p hb m hp se F){av err fl inf:Value}{n Cz tb:Nat}{az:List SM.Ans}{cs:List (List Value)}(g:MO9 w0 w hb (·=tb) F av n az cs)(hn:n<=1000000){a:SM.Ans}{x1 x2 x3:Value}(ht:bk w tb=some (CB (zbv {a with e:=0} x1 x2 x3) T.ab))(htb:¬F.own tb/\w0.heap.size<=tb/\av.ownBlock≠some tb)
  (hx:BS w x1 a.data) (hy:RowS w x2 a.names.length (a.names.map S)) (hz:RowS w x3 a.infos.length (zf2 a.infos)) (ho:∀b,(x1.ownBlock=some b\/x2.ownBlock=some b\/x3.ownBlock=some b)->w0.heap.size<=b/\b<w.heap.size/\¬(F.own b\/b=hb\/av.ownBlock=some b\/b=tb))
  (he:ErrV w Cz se a.e err) (hC:w0.heap.size<=Cz) {k3:List Value->World->Prop} {t:List Value} {u:Env}
  (hk:∀w' av' cs' F',MJ w0 w' p hb m hp se F'->MO9 w0 w' hb (·=tb) F' av' (n+1) (az++[a]) cs'->k3 [av'] w'):
  zdX [av,err,fl,inf] (pt tb 0) k3 t u w:=by
 unfold zdX;rw[gs0,gs1,C.bu];refine zpD h.fs.sn hC he ?_;obtain⟨p1,c1,rfl⟩:=zaK hx;obtain⟨p2,c2,rfl⟩:=za8 hy;obtain⟨p3,c3,rfl⟩:=za8 hz;have lt:=zai ht;obtain⟨M,cc,m1,_,_⟩:=h.map;have nhb:hb≠tb:=λe=>by rw[e,ht]at m1;cases m1
 obtain⟨c',ec'⟩:∃c',c'=zbv a (.slice p1 a.data.length c1) (.slice p2 a.names.length c2) (.slice p3 a.infos.length c3):=⟨_,rfl⟩;obtain⟨w1,e1⟩:∃w1,w1=setb w tb (CB c' T.ab):=⟨_,rfl⟩;have k1:Kp w w1 (·=tb):=by rw[e1];exact Kp.setb _ _ _
 have z1:w1.heap.size=w.heap.size:=by rw[e1,sZb]
 obtain⟨F1,f1,f2⟩:=h.fs.again k1 (λb hb e=>htb.1 (by rw[<-e];exact hb)) λb e=>by rw[e];exact htb.2.1
 have J1:MJ w0 w1 p hb m hp se F1:=by obtain⟨M,cc,m1,m2,m3⟩:=h.map;exact⟨f1,λb hb=>⟨(f2 b hb).2.1,by rw[z1];exact(f2 b hb).2.2⟩,⟨λe=>h.hbn.1 (f2 hb e).1,h.hbn.2⟩,⟨M,cc,(k1.block hb (zai m1) nhb).trans m1,m2,m3⟩,h.bel.trans (k1.below (λb hb e=>by have:=htb.2.1;omega) h.bel.size)⟩
 have weak:∀b,¬(F.own b\/b=hb\/av.ownBlock=some b\/b=tb)->¬(F1.own b\/b=hb\/av.ownBlock=some b\/b=tb):=λb hn e=>by
  rcases e with e|e
  ·exact hn (.inl (f2 b e).1)
  ·exact hn (.inr e)
 have G1:MO9 w0 w1 hb (·=tb) F1 av n az cs:=⟨zbR g.o k1 λb hb e=>htb.2.2 (by rw[<-e];exact hb),λb hb e=>g.nF b hb (f2 b e).1,g.len,AnsAt.to (AnsAt.kp g.ans k1 λb _ _ hn e=>hn (.inr (.inr (.inr e)))) λb _ _ hn=>weak b hn⟩;have A0:AnsN w w0.heap.size (λb=>F.own b\/b=hb\/av.ownBlock=some b\/b=tb) a c':=⟨_,_,_,ec',hx,hy,hz,ho⟩;have A1:AnsN w1 w0.heap.size (λb=>F1.own b\/b=hb\/av.ownBlock=some b\/b=tb) a c':=AnsN.to (AnsN.kp A0 k1 λb _ _ hn e=>hn (.inr (.inr (.inr e)))) λb _ _ hn=>weak b hn;have fin:=ztG J1 G1 hn A1 hk;simp(disch:=first|omega|(simp(disch:=first|omega|fail)only[go_sem,ht]<;>omega)|fail)only[go_sem,ht];rw[e1,ec']at fin;exact fin
end
section
variable{w w' w0:World}{F0 F:Fp}{K:Value->World->Prop}{B p mb hb:Nat}{s:PM.St}{rep:Nat->Rep}{se:Nat->Nat×Nat}
 {Tz:Nat->Prop} {m m':SM.Mem} {ps:List Nat} {hp hp':Int->Nat} {E:PM.Ex} {X:Option Str}
theorem zn5{av err fl:Value}{k3:List Value->World->Prop}{tb:Nat}{s6:List Value}{u6:Env}{w:World}(he:err=.nilIface\/∃t y,err=.iface t y)(h:∀t u,zdX [av,err,fl,.pointer none] (pt tb 0) k3 t u w):
  zbt [av,err,fl,.pointer none] (pt tb 0) k3 s6 u6 w:=by
 unfold zbt;refine zaa (λt w'=>w'=w) ?_ ?_
 ·rintro t e w1 rfl;exact h t e
 ·rcases he with rfl|⟨t,y,rfl⟩
  ·rw[gs1,zjy Tryz.underlying116];simp(disch:=first|omega|(simp(disch:=first|omega|fail)only[go_sem]<;>omega)|fail)only[go_sem];rw[znI U.aC];simp(disch:=first|omega|(simp(disch:=first|omega|fail)only[go_sem,Option.isSome_none]<;>omega)|fail)only[go_sem,Option.isSome_none]
  ·rw[gs1,zla Tryz.underlying116];simp(disch:=first|omega|(simp(disch:=first|omega|fail)only[go_sem]<;>omega)|fail)only[go_sem]
theorem zn9{av err inf t16:Value}{k3:List Value->World->Prop}{tb:Nat}{s2:List Value}{u5:Env}{w:World}(he:err=.nilIface\/∃t y,err=.iface t y)(h:∀t u,zbt [av,err,.pointer none,inf] (pt tb 0) k3 t u w):
  za6 (pt tb 0) k3 t16 s2 [av,err,.pointer none,inf] u5 w:=by
 unfold za6;refine zaa (λt w'=>w'=w) ?_ ?_
 ·rintro t e w1 rfl;exact h t e
 ·rcases he with rfl|⟨t,y,rfl⟩
  ·rw[gs1,zjy Tryz.underlying116];simp(disch:=first|omega|(simp(disch:=first|omega|fail)only[go_sem]<;>omega)|fail)only[go_sem];rw[znI U.aD];simp(disch:=first|omega|(simp(disch:=first|omega|fail)only[go_sem,Option.isSome_none]<;>omega)|fail)only[go_sem,Option.isSome_none]
  ·rw[gs1,zla Tryz.underlying116];simp(disch:=first|omega|(simp(disch:=first|omega|fail)only[go_sem]<;>omega)|fail)only[go_sem]
theorem zrG{av inf t16:Value}{f:Nat}{k3:List Value->World->Prop}{tb:Nat}{s2:List Value}{u5:Env}{w:World}(h:st P (zd9 T.aS t16 (gs s2 1) (pt f 0)) w λ_ w'=>∀t u,zbt [av,.nilIface,pt f 0,inf] (pt tb 0) k3 t u w'):
  za6 (pt tb 0) k3 t16 s2 [av,.nilIface,pt f 0,inf] u5 w:=by
 unfold za6;refine zaa (λt w'=>∀t u,zbt [av,.nilIface,pt f 0,inf] (pt tb 0) k3 t u w') ?_ ?_
 ·rintro t e w1 h1;exact h1 t e
 ·rw[gs1,zjy Tryz.underlying116];simp(disch:=first|omega|(simp(disch:=first|omega|fail)only[go_sem]<;>omega)|fail)only[go_sem];rw[znI U.aD];simp(disch:=first|omega|(simp(disch:=first|omega|fail)only[go_sem,Option.isSome_some]<;>omega)|fail)only[go_sem,Option.isSome_some];exact h
theorem zmO{w:World}{Cz:Nat}{e:Int}{x:Value}(h:ErrV w Cz se e x):x=.nilIface\/∃t y,x=.iface t y:=by
 rcases h.nil_iff with⟨_,h⟩|⟨_,h⟩
 ·exact .inl h
 ·exact .inr h
theorem zbr{av err t16:Value}{n Cz tb:Nat}{e:Int}{az:List SM.Ans}{cs:List (List Value)}{s2:List Value}{u5:Env}{k3:List Value->World->Prop}(J:MJ w0 w p hb m hp se F)(G:MO9 w0 w hb (·=tb) F av n az cs)(hn:n<=1000000)(ht:bk w tb=some (CB ansZ T.ab))(htb:¬F.own tb/\w0.heap.size<=tb/\av.ownBlock≠some tb)
  (fs:FsT w F w' w0.heap.size p m' hp' se) (hm:∀j,(SM.hget m'.hs j).map (λ_=>pt (hp' j) 0)=(SM.hget m.hs j).map λ_=>pt (hp j) 0) (he:ErrV w' Cz se e err) (hC:w0.heap.size<=Cz)
  (hk:∀w' av' cs' F',MJ w0 w' p hb m' hp' se F'->MO9 w0 w' hb (·=tb) F' av' (n+1) (az++[SM.Ans.err e]) cs'->k3 [av'] w'):
  za6 (pt tb 0) k3 t16 s2 [av,err,.pointer none,.pointer none] u5 w':=by
 obtain⟨F',J',k,hF⟩:=J.after fs hm;have G':=G.after k hF;have lt:=zai ht;have ht':=(k.block tb lt htb.1).trans ht;refine zn9 (zmO he) λt u=>zn5 (zmO he) λt u=>?_;exact zrp (a:=SM.Ans.err e) J' G' hn ht' ⟨λq=>htb.1 (hF tb lt q),htb.2⟩ (zb5 _) (zaS _) (zaS _) (λb hb=>by rcases hb with h|h|h<;>cases h) he hC hk
theorem zny{av:Value}{n f tb:Nat}{i:Int}{h:SM.Hnd}{m1:SM.Mem}{az:List SM.Ans}{cs:List (List Value)}{v0:Value}{u5:Env}{k3:List Value->World->Prop}(J:MJ w0 w p hb m hp se F)(G:MO9 w0 w hb (·=tb) F av n az cs)(hn:n<=1000000)(ht:bk w tb=some (CB ansZ T.ab))(htb:¬F.own tb/\w0.heap.size<=tb/\av.ownBlock≠some tb)
  (fr:FileR w F w' w0.heap.size p m1 hp se f h) (hm:m1.hs=m.hs)
  (hk:∀w' av' cs' F',MJ w0 w' p hb (m1.setH i h) (λk=>if k=i then f else hp k) se F'->MO9 w0 w' hb (·=tb) F' av' (n+1) (az++[SM.Ans.z]) cs'->k3 [av'] w'):
  za6 (pt tb 0) k3 (.map (some hb)) [v0,.int .i64 i] [av,.nilIface,pt f 0,.pointer none] u5 w':=by
 obtain⟨M,c,m2,_,_⟩:=J.map;have nhb:tb≠hb:=λe=>by rw[<-e,ht]at m2;cases m2
 refine zrG ?_;rw[gs1];refine J.afterPut G (.inl (fr.number i)) i f (λj=>?_) λw2 F' J2 G2 hb2 t u=>?_
 ·show(SM.hget (SM.hput m1.hs i h) j).map (λ_=>pt (if j=i then f else hp j) 0)=_;rw[SM.zbJ,hm];by_cases c:j=i
  ·rw[if_pos c,if_pos c,if_pos c];rfl
  ·rw[if_neg c,if_neg c,if_neg c]
 ·obtain⟨e1,e2⟩:=hb2 tb (zai ht) htb.1 nhb;refine zn5 (.inl rfl) λt u=>?_;exact zrp (a:=SM.Ans.z) J2 G2 hn (e1.trans ht) ⟨e2,htb.2⟩ (zb5 _) (zaS _) (zaS _) (λb hb=>by rcases hb with h|h|h<;>cases h) (ErrV.nil _ w0.heap.size _) (Nat.le_refl _) hk
theorem MJ.else_{S:Nat->Prop}{av:Value}{n:Nat}{az:List SM.Ans}{cs:List (List Value)}(h:MJ w0 w p hb m hp se F)(g:MO9 w0 w hb Tz F av n az cs)(k:Kp w w' S)(hS:∀b,S b->b<w.heap.size->¬F.own b/\b≠hb/\w0.heap.size<=b/\av.ownBlock≠some b/\Tz b)(hS2:∀b,S b->b<w.heap.size):
  ∃F',MJ w0 w' p hb m hp se F'/\MO9 w0 w' hb Tz F' av n az cs/\∀b,F'.own b->F.own b:=by
 have hS:=λb hb=>hS b hb (hS2 b hb);obtain⟨F1,f1,f2⟩:=h.fs.again k (λb hb e=>(hS b e).1 hb) λb e=>(hS b e).2.2.1;obtain⟨M,cc,m1,m2,m3⟩:=h.map;have z:=k.size;refine⟨F1,⟨f1,λb hb=>⟨(f2 b hb).2.1,by have:=(f2 b hb).2.2;omega⟩,⟨λe=>h.hbn.1 (f2 hb e).1,h.hbn.2⟩,⟨M,cc,(k.block hb (zai m1) λe=>(hS hb e).2.1 rfl).trans m1,m2,m3⟩,h.bel.trans (k.below (λb hb e=>by have:=(hS b e).2.2.1;omega) h.bel.size)⟩,
  ⟨zbR g.o k λb hb e=>(hS b e).2.2.2.1 hb,λb hb e=>g.nF b hb (f2 b e).1,g.len,AnsAt.to (AnsAt.kp g.ans k λb _ _ hn e=>hn (.inr (.inr (.inr (hS b e).2.2.2.2)))) λb _ _ hn e=>?_⟩,λb hb=>(f2 b hb).1⟩
 rcases e with e|e
 ·exact hn (.inl (f2 b e).1)
 ·exact hn (.inr e)
theorem memInfo{av t16:Value}{n fi tb:Nat}{inf:SM.Info}{az:List SM.Ans}{cs:List (List Value)}{s2:List Value}{u5:Env}{k3:List Value->World->Prop}(J:MJ w0 w p hb m hp se F)(G:MO9 w0 w hb (·=tb) F av n az cs)(hn:n<=1000000)(ht:bk w tb=some (CB ansZ T.ab))(htb:¬F.own tb/\w0.heap.size<=tb/\av.ownBlock≠some tb)
  (fs:FsT w F w' w0.heap.size p m hp se) (hi:InfoAt w' fi inf)
  (hk:∀w' av' cs' F',MJ w0 w' p hb m hp se F'->MO9 w0 w' hb (·=tb) F' av' (n+1) (az++[{SM.Ans.z with infos:=[inf]}]) cs'->k3 [av'] w'):
  za6 (pt tb 0) k3 t16 s2 [av,.nilIface,.pointer none,pt fi 0] u5 w':=by
 obtain⟨F',J',k,hF⟩:=J.after fs λj=>rfl;have G':=G.after k hF;have lt:=zai ht;have ht':=(k.block tb lt htb.1).trans ht;refine zn9 (.inl rfl) λt u=>?_;unfold zbt;refine zaa (λt w2=>∃F2 z,MJ w0 w2 p hb m hp se F2/\MO9 w0 w2 hb (·=tb) F2 av n az cs/\bk w2 tb=some (CB (zbv SM.Ans.z (.slice none 0 0) (.slice none 0 0) z) T.ab)/\RowS w2 z 1 (zf2 [inf])/\(∀b,z.ownBlock=some b->w'.heap.size<=b/\b<w2.heap.size)/\∀b,F2.own b->F'.own b) ?_ ?_
 ·rintro t e w2 ⟨F2,z,J2,G2,t2,r2,o2,s2⟩;have hz:=k.size;refine zrp (a:={SM.Ans.z with infos:=[inf]}) J2 G2 hn t2 ⟨λq=>htb.1 (hF tb lt (s2 tb q)),htb.2⟩ (zb5 _) (zaS _) r2 (λb hb=>?_) (ErrV.nil _ w0.heap.size _) (Nat.le_refl _) hk;rcases hb with h|h|h
  ·cases h
  ·cases h
  ·obtain⟨l1,l2⟩:=o2 b h;have z0:=J.bel.size;obtain⟨M,cc,m1,_,_⟩:=J'.map;have lhb:=zai m1;refine⟨by omega,l2,λe=>?_⟩;rcases e with e|e|e|e
   ·have:=(J'.own b (s2 b e)).2;omega
   ·omega
   ·have:=(zaV G'.o b e).2;omega
   ·omega
 ·rw[gs1,zjy Tryz.underlying116];simp(disch:=first|omega|(simp(disch:=first|omega|fail)only[go_sem]<;>omega)|fail)only[go_sem];rw[znI U.aC];simp(disch:=first|omega|(simp(disch:=first|omega|fail)only[go_sem,Option.isSome_some]<;>omega)|fail)only[go_sem,Option.isSome_some];rw[zbc (z:=.pointer none) _ _ U.aj (by kernel_rfl) rfl];have B3:Below w'.heap.size w' (w'.alloc (CB [pt fi 0] T.aF)):=by repeat (first|exact Below.refl _ _|assumption|refine zag ?_ (by first|omega|(simp only[go_sem]<;>omega)) _|refine Below.alloc ?_ (by first|omega|(simp only[go_sem]<;>omega)) _|refine Below.drew ?_)
  have r3:zaY (bk (w'.alloc (CB [pt fi 0] T.aF)) w'.heap.size) 0 1=some [pt fi 0]:=by rw[zah _ _ _ rfl];rfl
  have z3:(w'.alloc (CB [pt fi 0] T.aF)).heap.size=w'.heap.size+1:=by simp only[go_sem]
  generalize w'.alloc (CB [pt fi 0] T.aF)=w3 at*;refine zeE (fs:=[fi]) (is:=[inf]) (.inr ⟨_,_,_,rfl,by simp,r3,by omega⟩) (by simp) rfl (λi h1 h2=>?_) λw4 z o4 B4=>?_
  ·have:i=0:=by simp at h1;omega
   subst this;exact hi.old B3
  ·have B14:Below w'.heap.size w' w4:=B3.trans (B4.mono B3.size);have lt':=zai ht';have ht4:=(zaH B14 lt').trans ht';obtain⟨p1,c1,rfl⟩:=zal o4;simp(disch:=first|omega|(simp(disch:=first|omega|fail)only[go_sem,ht4]<;>omega)|fail)only[go_sem,ht4];obtain⟨F4,J4,s4⟩:=J'.old B14;have G4:=G'.old B14 s4;have l4:=zai ht4;obtain⟨w5,e5⟩:∃w5,w5=setb w4 tb (CB (zbv SM.Ans.z (.slice none 0 0) (.slice none 0 0) (.slice p1 1 c1)) T.ab):=⟨_,rfl⟩;have k5:Kp w4 w5 (·=tb):=by rw[e5];exact Kp.setb _ _ _
   have b5:bk w5 tb=some (CB (zbv SM.Ans.z (.slice none 0 0) (.slice none 0 0) (.slice p1 1 c1)) T.ab):=by rw[e5];exact zar _ _ _ _ rfl l4
   have z5:w5.heap.size=w4.heap.size:=by rw[e5,sZb]
   obtain⟨M,cc,m1,_,_⟩:=J4.map;have nhb:tb≠hb:=λe=>by rw[<-e,ht4]at m1;cases m1
   obtain⟨F5,J5,G5,s5⟩:=J4.else_ G4 k5 (λb e _=>⟨λq=>by rw[e]at q;exact htb.1 (hF tb lt (s4 tb q)),by rw[e];exact nhb,by rw[e];exact htb.2.1,by rw[e];exact htb.2.2,e⟩) λb e=>by rw[e];exact l4
   have o5:=zbR o4 k5 λb hb e=>by have:=(zaV o4 b hb).1;omega
   have e5':setb w4 tb (CB [.int .i64 0,.int .i64 0,.int .i64 0,.slice none 0 0,.slice none 0 0,.slice p1 [inf].length c1] T.ab)=w5:=e5.symm;rw[e5'];refine⟨F5,.slice p1 1 c1,J5,G5,b5,zgg o5,λb hb=>?_,λb hb=>s4 b (s5 b hb)⟩;have:=zaV o5 b hb;omega
end
end Go.Proofs.YtdljebgllipdjaaGreatDoor.X
end
section
namespace Go.Proofs.YtdljebgllipdjaaGreatDoor.X
open Go Go.X Go.Proofs Go.RowKit
structure InvG(n l:Nat)(c:Int)(m:SM.Mem):Prop where
 wf:SM.Wf m
 rt:(m.find [47]).isSome=true
 nn:m.names.length<=n
 dn:m.nodes.length<=n
 nl:∀x∈m.names,x.length<=l
 dl:∀n∈m.nodes,n.name.length<=l/\n.data.length<=8192
 md:∀n∈m.nodes,0<=n.mode/\n.mode<=4294967295
 hd:∀j h,SM.hget m.hs j=some h->h.node<m.nodes.length/\(0<=h.listed/\h.listed<=n)/\(-(4398046511104+c)<=h.pos/\h.pos<=4398046511104+c)
def Inv(k:Nat)(m:SM.Mem):Prop:=InvG (1+500*k) (500*(k+1)) (8192*(k:Int)) m
section
variable{n l:Nat}{c:Int}{m:SM.Mem}
theorem InvG.to(h:InvG n l c m){n' l':Nat}{c':Int}(h1:n<=n')(h2:l<=l')(h3:c<=c'):InvG n' l' c' m:=⟨h.wf,h.rt,by have:=h.nn;omega,by have:=h.dn;omega,λx hx=>by have:=h.nl x hx;omega,λn hn=>by have:=h.dl n hn;omega,h.md,λi hd hi=>by have:=h.hd i hd hi;omega⟩
theorem InvG.mb(h:InvG n l c m)(hn:n<=999990000)(hl:l<=1000000000):MB m:=⟨by have:=h.nn;omega,by have:=h.dn;omega,h.wf.la,h.wf.lt,λx hx=>by have:=h.nl x hx;omega,λn hn=>by have:=(h.dl n hn).1;omega⟩
theorem InvG.hb(h:InvG n l c m):HB m:=λj hd hj=>(h.hd j hd hj).1
theorem InvG.setH(h:InvG n l c m){i:Int}{hd:SM.Hnd}(h1:hd.node<m.nodes.length)(h2:0<=hd.listed/\hd.listed<=n)(h3:-(4398046511104+c)<=hd.pos/\hd.pos<=4398046511104+c):InvG n l c (m.setH i hd):=by
 refine⟨h.wf.same rfl rfl (Nat.le_refl _),(SM.zhh rfl rfl _).symm▸h.rt,h.nn,h.dn,h.nl,h.dl,h.md,λj hd' hj=>?_⟩;have hj:SM.hget (SM.hput m.hs i hd) j=some hd':=hj;rw[SM.zbJ]at hj;by_cases e:j=i
 ·rw[if_pos e]at hj;injection hj with hj;rw[<-hj];exact⟨h1,h2,h3⟩
 ·rw[if_neg e]at hj;exact h.hd j hd' hj
theorem InvG.setNode(h:InvG n l c m){x:Nat}{nd:SM.Node}(h1:nd.name.length<=l)(h2:nd.data.length<=8192)(h3:0<=nd.mode/\nd.mode<=4294967295):InvG n l c (m.setNode x nd):=by
 obtain⟨s1,s2,s3,s4⟩:=SM.za3 m x nd;refine⟨h.wf.same s1 s2 (by rw[s3];exact Nat.le_refl _),(SM.zhh s1 s2 _).symm▸h.rt,by rw[s1];exact h.nn,by rw[s3];exact h.dn,by rw[s1];exact h.nl,λy hy=>?_,λy hy=>?_,λj hd hj=>?_⟩
 ·rcases List.mem_or_eq_of_mem_set hy with q|q
  ·exact h.dl y q
  ·rw[q];exact⟨h1,h2⟩
 ·rcases List.mem_or_eq_of_mem_set hy with q|q
  ·exact h.md y q
  ·rw[q];exact h3
 ·rw[s3];exact h.hd j hd hj
theorem InvG.node(h:InvG n l c m){x:Nat}(hx:x<m.nodes.length):(m.node x).name.length<=l/\(m.node x).data.length<=8192/\0<=(m.node x).mode/\(m.node x).mode<=4294967295:=by rw[zdZ hx];have:=h.dl _ (List.getElem_mem hx);exact⟨this.1,this.2,h.md _ (List.getElem_mem hx)⟩
theorem InvG.add(h:InvG n l c m){q:Str}(hq:q.length<=l){nd:SM.Node}(hn:nd.data=[])(hm:0<=nd.mode/\nd.mode<=4294967295):InvG (n+1) l c (m.add q nd):=by
 obtain⟨a1,a2,a3,a4,a5,a6⟩:=SM.zeC h.wf q nd;have n1:=h.nn;have n2:=h.dn;have al:(m.add q nd).nodes.length=m.nodes.length+1:=by rw[a4];simp
 refine⟨a1,?_,by omega,by omega,λy hy=>?_,λy hy=>?_,λy hy=>?_,λj hd hj=>?_⟩
 ·rw[a2];split
  ·rfl
  ·exact h.rt
 ·rcases(a3 y).1 hy with q|q
  ·rw[q];omega
  ·exact h.nl y q
 ·rw[a4]at hy;rcases List.mem_append.1 hy with q|q
  ·exact h.dl y q
  ·simp at q;rw[q];simp only[hn];exact⟨by omega,by simp⟩
 ·rw[a4]at hy;rcases List.mem_append.1 hy with q|q
  ·exact h.md y q
  ·simp at q;rw[q];exact hm
 ·rw[a5]at hj;obtain⟨h1,h2,h3⟩:=h.hd j hd hj;exact⟨by omega,by omega,by omega⟩
theorem zrs{perm:Int}(hp:0<=perm/\perm<=4294967295):0<=orI 2147483648 perm/\orI 2147483648 perm<=4294967295:=by rw[zq7 hp];have:2147483648|||perm.toNat<2^32:=Nat.or_lt_two_pow (by decide) (by omega);omega
theorem InvG.parents(h:InvG n l c m){perm:Int}(hp:0<=perm/\perm<=4294967295):∀(k:Nat){q:Str},q.length<=k->q.length<=l->InvG (n+(k+1)) l c (m.parents q perm):=by
 intro k
 induction k with
 |zero=>
  intro q hk hl;have e:q=[]:=List.length_eq_zero_iff.1 (by omega);have e2:SM.parent q=[47]:=by rw[e];rfl
  cases e3:m.find (SM.parent q)with
  |some x=>rw[SM.zbK e3];exact h.to (by omega) (Nat.le_refl _) (Int.le_refl _)
  |none=>have:=h.rt;rw[e2]at e3;rw[e3]at this;cases this
 |succ k ih=>
  intro q hk hl;cases e3:m.find (SM.parent q)with
  |some x=>rw[SM.zbK e3];exact h.to (by omega) (Nat.le_refl _) (Int.le_refl _)
  |none=>
   have hp':SM.parent q≠[47]:=λe=>by have:=h.rt;rw[e]at e3;rw[e3]at this;cases this
   have hlt:=(SM.zaW q).resolve_right hp';rw[SM.zeB h.rt e3];have:=(ih (q:=SM.parent q) (by omega) (by omega)).add (q:=SM.parent q) (nd:=⟨true,orI 2147483648 perm,[],0,[]⟩) (by omega) rfl (zrs hp);exact this.to (by omega) (Nat.le_refl _) (Int.le_refl _)
theorem InvG.drop(h:InvG n l c m){q:Str}(hl:q≠[47]):InvG n l c (m.drop q):=by obtain⟨d1,d2,d3⟩:=SM.zki h.wf q;obtain⟨e1,e2⟩:=SM.zcm m q;have:=(SM.znA h.wf q).1;refine⟨d1,by rw[d2,if_neg (Ne.symm hl)];exact h.rt,by have:=h.nn;omega,by rw[e1];exact h.dn,λx hx=>h.nl x ((d3 x).1 hx).2,by rw[e1];exact h.dl,by rw[e1];exact h.md,by rw[e1,e2];exact h.hd⟩
theorem InvG.dropAll:∀(ns:List Str){m:SM.Mem},InvG n l c m->(∀q∈ns,q≠[47])->InvG n l c (m.dropAll ns)
 |[],m,h,_=>h
 |q::ns,m,h,hn=>InvG.dropAll ns (h.drop (hn q (List.mem_cons_self ..))) λx hx=>hn x (List.mem_cons_of_mem _ hx)
theorem XKnames{m:SM.Mem}(h:SM.Wf m)(q:Str):q∈m.names↔(m.find q).isSome=true:=by
 have:=SM.zcl h q;cases e:m.find q with
 |none=>simp[this.1 e]
 |some x=>simp[(SM.zbL h e).1]
theorem zja(m:SM.Mem)(src dst q:Str)(x:Nat):((m.moved src dst q).node x).data=(m.node x).data/\((m.moved src dst q).node x).mode=(m.node x).mode/\(((m.moved src dst q).node x).name=(m.node x).name\/((m.moved src dst q).node x).name=dst++q.drop src.length)/\(m.moved src dst q).hs=m.hs/\(m.moved src dst q).nodes.length=m.nodes.length:=by
 have dn:=(SM.zcm m q);have pn:=(SM.zeR (m.drop q) (dst++q.drop src.length) ((m.find q).getD 0));have en:∀y,((m.drop q).put (dst++q.drop src.length) ((m.find q).getD 0)).node y=m.node y:=λy=>by unfold SM.Mem.node;rw[pn.1,dn.1]
 unfold SM.Mem.moved;simp only
 refine⟨?_,?_,?_,by show _=_;rw[<-dn.2,<-pn.2];rfl,by unfold SM.Mem.setNode;simp only[List.length_set];rw[pn.1,dn.1]⟩
 all_goals
  by_cases hx:(m.find q).getD 0<((m.drop q).put (dst++q.drop src.length) ((m.find q).getD 0)).nodes.length
  ·rw[SM.zgJ _ _ _ hx];by_cases e:x=(m.find q).getD 0
   ·rw[if_pos e];simp only[en,e]
    try simp
   ·rw[if_neg e];simp only[en]
    try simp
  ·have:((m.drop q).put (dst++q.drop src.length) ((m.find q).getD 0)).setNode ((m.find q).getD 0) {((m.drop q).put (dst++q.drop src.length) ((m.find q).getD 0)).node ((m.find q).getD 0)with name:=dst++q.drop src.length}=(m.drop q).put (dst++q.drop src.length) ((m.find q).getD 0):=by unfold SM.Mem.setNode;rw[List.set_eq_of_length_le (by omega)]
   rw[this];simp only[en]
   try simp
theorem zpK{m:SM.Mem}{nd:SM.Node}(h:nd∈m.nodes):∃x,x<m.nodes.length/\m.node x=nd:=by obtain⟨x,hx,e⟩:=List.getElem_of_mem h;exact⟨x,hx,by rw[zdZ hx];exact e⟩
theorem InvG.moved(h:InvG n l c m){src dst q:Str}(hq:q∈m.names)(q47:q≠[47])(hl:dst.length+q.length<=l):InvG n l c (m.moved src dst q):=by
 obtain⟨a1,a2,a3,a4,a5⟩:=SM.ziY h.wf src dst hq;have hlen:(dst++q.drop src.length).length<=l:=by simp;omega
 refine⟨a1,?_,by have:=h.nn;omega,by have:=h.dn;omega,λy hy=>?_,λy hy=>?_,λy hy=>?_,λj hd hj=>?_⟩
 ·rw[a2];by_cases e:[47]=dst++q.drop src.length
  ·rw[if_pos e];exact(XKnames h.wf q).1 hq
  ·rw[if_neg e,if_neg (Ne.symm q47)];exact h.rt
 ·rcases(a3 y).1 hy with e|e
  ·rw[e];exact hlen
  ·exact h.nl y e.2
 ·obtain⟨x,hx,rfl⟩:=zpK hy;obtain⟨m1,m2,m3,m4,m5⟩:=zja m src dst q x;have:=h.node (x:=x) (by omega);rw[m1];refine⟨?_,this.2.1⟩;rcases m3 with e|e
  ·rw[e];exact this.1
  ·rw[e];exact hlen
 ·obtain⟨x,hx,rfl⟩:=zpK hy;obtain⟨m1,m2,m3,m4,m5⟩:=zja m src dst q x;rw[m2];exact(h.node (x:=x) (by omega)).2.2
 ·obtain⟨m1,m2,m3,m4,m5⟩:=zja m src dst q 0;rw[m4]at hj;rw[m5];exact h.hd j hd hj
theorem InvG.fold{src dst:Str}:∀(L:List Str){m:SM.Mem},InvG n l c m->L.Nodup->(∀q∈L,q∈m.names/\q≠[47]/\dst.length+q.length<=l)->InvG n l c (L.foldl (λm n=>m.moved src dst n) m)
 |[],m,h,_,_=>h
 |q::L,m,h,nd,hL=>by rw[List.foldl_cons];rw[List.nodup_cons]at nd;obtain⟨h1,h2,h3⟩:=hL q (List.mem_cons_self ..);refine InvG.fold L (h.moved h1 h2 h3) nd.2 λy hy=>?_;obtain⟨g1,g2,g3⟩:=hL y (List.mem_cons_of_mem _ hy);exact⟨((SM.ziY h.wf src dst h1).2.2.1 y).2 (.inr ⟨λe=>nd.1 (by rw[<-e];exact hy),g1⟩),g2,g3⟩
theorem zrm{nd:SM.Node}{h:SM.Hnd}{s:SM.Stp}(hd:nd.dir=false)(p:SpF nd h s)(hc:0<=c/\c<=10000000000000)(h1:nd.data.length<=8192)(h2:nd.name.length<=1000000)(h3:0<=nd.mode/\nd.mode<=4294967295)(h4:-(4398046511104+c)<=h.pos/\h.pos<=4398046511104+c):
  (zbf nd h s).1.data.length<=8192/\(0<=(zbf nd h s).1.mode/\(zbf nd h s).1.mode<=4294967295)/\-(4398046511104+(c+8192))<=(zbf nd h s).2.1.pos/\(zbf nd h s).2.1.pos<=4398046511104+(c+8192):=by
 have R:Rel c ⟨nd.data,h.pos,h.cl,h.ro,h.listed,nd.name,.map none,nd.dir,nd.mode,nd.time,0,0⟩ nd h:=⟨rfl,rfl,rfl,hd,hd,rfl,rfl,rfl,h1,h2,h3,λ_=>rfl,by simp only;omega,by omega,by omega⟩;obtain⟨r,_⟩:=R.step p;exact⟨r.len,r.md,by have:=r.ph;omega⟩
theorem zpO(h:InvG n l c m){k:Int}{hd:SM.Hnd}{r:SM.Node×SM.Hnd×SM.Ans}{c':Int}(hcc:c<=c')(hk:SM.hget m.hs k=some hd)(e1:r.1.name.length<=l)(e2:r.1.data.length<=8192)(e3:0<=r.1.mode/\r.1.mode<=4294967295)(e4:r.2.1.node=hd.node)(e5:0<=r.2.1.listed/\r.2.1.listed<=n)(e6:-(4398046511104+c')<=r.2.1.pos/\r.2.1.pos<=4398046511104+c'):InvG n l c' (setF m k hd.node r).1:=by have a:=(h.setNode (x:=hd.node) e1 e2 e3).to (Nat.le_refl n) (Nat.le_refl l) hcc;have hn:=(h.hd _ _ hk).1;have b:=a.setH (i:=k) (hd:=r.2.1) (by rw[e4,(SM.za3 m hd.node r.1).2.2.1];exact hn) e5 e6;exact b
theorem InvG.step(h:InvG n l c m)(hl:402<=l/\l<=1000000)(hc:0<=c/\c<=10000000000000){s:SM.Stp}(sp:m.speaks s=true)(i:Int):InvG (n+500) (l+500) (c+8192) (m.doS i s).1:=by
 unfold SM.Mem.speaks at sp;by_cases c0:400<s.name.length\/400<s.other.length\/4096<s.data.length
 ·rw[if_pos c0]at sp;cases sp
 rw[if_neg c0]at sp;have wk:∀{m'},InvG n l c m'->InvG (n+500) (l+500) (c+8192) m':=λh=>h.to (by omega) (by omega) (by omega);have nl:=zbG s.name;have nl2:=zbG s.other;have perm0:∀p,0<=andI p SM.zan/\andI p SM.zan<=4294967295:=λp=>by have:=zgR p (c:=13631999) (by decide);have e:andI p SM.zan=andI p ((13631999:Nat):Int):=rfl;rw[e];omega
 have mk:∀{perm:Int}{nd:SM.Node},(0<=perm/\perm<=4294967295)->nd.data=[]->(0<=nd.mode/\nd.mode<=4294967295)->InvG (n+500) (l+500) (c+8192) ((m.parents (norm s.name) perm).add (norm s.name) nd)/\(m.parents (norm s.name) perm).nodes.length<((m.parents (norm s.name) perm).add (norm s.name) nd).nodes.length:=λ{perm nd} hp hd hm=>by have a:=h.parents hp 401 (q:=norm s.name) (by omega) (by omega);exact⟨(a.add (q:=norm s.name) (by omega) hd hm).to (by omega) (by omega) (by omega),by rw[SM.ziX a.wf];omega⟩
 unfold SM.Mem.doS;by_cases o1:0<=s.op/\s.op<=2
 ·rw[if_pos o1]at sp⊢;unfold SM.Mem.openS;simp only
  by_cases e0:s.op=0
  ·rw[if_pos e0];obtain⟨a,b⟩:=mk (perm:=0) (nd:=⟨false,268435456,[],0,[]⟩) (by omega) rfl (by simp);exact a.setH b ⟨by simp,by simp;omega⟩ ⟨by simp only;omega,by simp only;omega⟩
  rw[if_neg e0];by_cases e1:s.op=1
  ·rw[if_pos e1];cases e:m.find (norm s.name)with
   |none=>exact wk h
   |some x=>exact wk (h.setH (h.wf.find_lt e) ⟨by simp,by simp⟩ ⟨by simp only;omega,by simp only;omega⟩)
  rw[if_neg e1];cases e:m.find (norm s.name)with
  |none=>
   simp only[Option.isSome_none,Option.isNone_none,Bool.false_and,Bool.true_and,if_true,Bool.false_eq_true,if_false];by_cases c1:(!SM.has s.flag 64)=true
   ·rw[if_pos c1];exact wk h
   rw[if_neg c1];obtain⟨a,b⟩:=mk (perm:=0) (nd:=⟨false,andI s.perm SM.zan,[],0,[]⟩) (by omega) rfl (perm0 _);have an:=a.node b;have key:∀(x:Int),0<=x/\x<=8192->∀ro,∀M:SM.Mem,InvG (n+500) (l+500) (c+8192) M->M.nodes.length=((m.parents (norm s.name) 0).add (norm s.name) ⟨false,andI s.perm SM.zan,[],0,[]⟩).nodes.length->InvG (n+500) (l+500) (c+8192) (M.setH i ⟨(m.parents (norm s.name) 0).nodes.length,x,0,false,ro⟩):=λx hx ro M hM hn=>hM.setH (by rw[hn];exact b) ⟨by simp,by simp;omega⟩ ⟨by simp only;omega,by simp only;omega⟩;refine key _ ?_ _ _ ?_ ?_
   ·split
    ·exact⟨by omega,by omega⟩
    ·omega
   ·split
    ·exact a.setNode (by exact an.1) (by simp) an.2.2
    ·exact a
   ·split
    ·exact(SM.za3 _ _ _).2.2.1
    ·rfl
  |some x=>
   simp only[Option.isSome_some,Option.isNone_some,Bool.false_and,Bool.true_and,if_true,Bool.false_eq_true,if_false];by_cases c1:SM.has s.flag 128=true
   ·rw[if_pos c1];exact wk h
   rw[if_neg c1];have hx:=h.wf.find_lt e;have an:=h.node hx;have key:∀(y:Int),0<=y/\y<=8192->∀ro,∀M:SM.Mem,InvG n l c M->M.nodes.length=m.nodes.length->InvG n l c (M.setH i ⟨x,y,0,false,ro⟩):=λy hy ro M hM hn=>hM.setH (by rw[hn];exact hx) ⟨by simp,by simp⟩ ⟨by simp only;omega,by simp only;omega⟩;refine wk (key _ ?_ _ _ ?_ ?_)
   ·split
    ·exact⟨by omega,by omega⟩
    ·omega
   ·split
    ·exact h.setNode (by exact an.1) (by simp) an.2.2
    ·exact h
   ·split
    ·exact(SM.za3 _ _ _).2.2.1
    ·rfl
 rw[if_neg o1]at sp⊢;by_cases o2:3<=s.op/\s.op<=11
 ·rw[if_pos o2]at sp⊢;unfold SM.Mem.speaksNames at sp;simp only at sp;cases hn:SM.zbE s.name with
  |false=>rw[if_pos hn]at sp;cases sp
  |true=>
  rw[if_neg (by rw[hn];simp)]at sp;have kn:=SM.zeQ hn;unfold SM.Mem.namesS;simp only
  by_cases c9:s.op=9/\norm s.name≠s.name
  ·rw[if_pos c9];exact wk h
  rw[if_neg c9];by_cases c3:s.op=3\/s.op=4
  ·rw[if_pos c3];split
   ·exact wk h
   ·split
    ·exact(mk (perm0 _) rfl (zrs (perm0 _))).1
    ·exact wk h
  rw[if_neg c3]at sp⊢;by_cases c6:s.op=6
  ·rw[if_neg (by omega),if_pos c6]at sp;rw[if_pos c6];simp only[ne_eq,decide_not,Bool.not_eq_eq_eq_not,Bool.not_true,decide_eq_false_iff_not]at sp;refine wk (InvG.dropAll _ h λq hq=>?_);simp only[List.mem_filter,Bool.or_eq_true,decide_eq_true_eq]at hq;rintro rfl;rcases hq.2 with e|e
   ·exact sp e.symm
   ·obtain⟨r,hr⟩:=(SM.zax sp).1 e;have:=congrArg List.length hr;have:0<(norm s.name).length:=List.length_pos_iff.2 (SM.zb3 kn);simp at*;omega
  rw[if_neg c6];by_cases c7:s.op=7
  ·rw[if_neg (by omega),if_neg (by omega),if_pos c7]at sp;rw[if_pos c7];unfold SM.Mem.renameS;by_cases e1:norm s.name=norm s.other
   ·rw[if_pos e1];exact wk h
   rw[if_neg e1];by_cases e2:(m.find (norm s.name)).isNone=true
   ·rw[if_pos e2];exact wk h
   rw[if_neg e2];simp only[Bool.and_eq_true,Bool.or_eq_true,decide_eq_true_eq,Bool.not_eq_true']at sp;obtain⟨_,sp|⟨⟨⟨⟨s47,d47⟩,_⟩,_⟩,_⟩⟩:=sp
   ·exact absurd sp e1
   have a:=h.parents (perm:=0) (by omega) 401 (q:=norm s.other) (by omega) (by omega);have anl:=a.nl;refine InvG.fold _ (a.to (by omega) (by omega) (by omega)) (List.Pairwise.filter _ (List.Pairwise.imp (R:=(·<·)) (S:=(·≠·)) (λ{a b}h e=>SM.za9 a (by rw[<-e]at h;exact h)) a.wf.srt)) λq hq=>?_;rw[List.mem_filter]at hq;have:=anl q hq.1;refine⟨hq.1,?_,by omega⟩;rintro rfl;simp only[Bool.or_eq_true,decide_eq_true_eq]at hq;rcases hq.2 with e|e
   ·exact s47 e.symm
   ·obtain⟨r,hr⟩:=(SM.zax s47).1 e;have:=congrArg List.length hr;have:0<(norm s.name).length:=List.length_pos_iff.2 (SM.zb3 kn);simp at*;omega
  rw[if_neg c7];cases e:m.find (norm s.name)with
  |none=>exact wk h
  |some x=>
   simp only
   have hx:=h.wf.find_lt e;have an:=h.node hx;by_cases c5:s.op=5
   ·rw[if_pos c5]at sp;rw[if_pos c5];simp only[Bool.and_eq_true,decide_eq_true_eq]at sp;exact wk (h.drop sp.1)
   rw[if_neg c5];by_cases c8:s.op=8
   ·rw[if_pos c8];exact wk h
   rw[if_neg c8];by_cases c9':s.op=9
   ·rw[if_pos c9'];have r:=zgR s.perm (c:=13631999) (by decide);have e9:andI s.perm SM.zan=andI s.perm ((13631999:Nat):Int):=rfl;refine wk (h.setNode (by exact an.1) (by exact an.2.1) ?_);simp only
    have:=znF (m:=(m.node x).mode) (b:=andI s.perm SM.zan) an.2.2 (by rw[e9];omega);rw[show SM.zan=13631999 from rfl]at this⊢;rw[<-this];have:(((m.node x).mode.toNat&&&4281335296:Nat):Int).toNat|||(andI s.perm 13631999).toNat<2^32:=by
     refine Nat.or_lt_two_pow ?_ ?_
     ·rw[Int.toNat_natCast];exact Nat.lt_of_le_of_lt Nat.and_le_left (by omega)
     ·have:andI s.perm 13631999=andI s.perm ((13631999:Nat):Int):=rfl;rw[this];omega
    omega
   rw[if_neg c9'];by_cases c11:s.op=11
   ·rw[if_pos c11];exact wk (h.setNode (by exact an.1) (by exact an.2.1) (by exact an.2.2))
   ·rw[if_neg c11];exact wk h
 rw[if_neg o2]at sp⊢;cases e:SM.hget m.hs s.h with
 |none=>exact wk h
 |some hd=>
  rw[e]at sp;simp only at sp⊢;by_cases o3:s.op<12\/23<s.op
  ·rw[if_pos o3];exact wk h
  rw[if_neg o3];obtain⟨g1,g2,g3⟩:=h.hd _ _ e;have an:=h.node g1;by_cases ol:(m.node hd.node).dir=true/\(s.op=19\/s.op=20)
  ·obtain⟨d1,d2⟩:=ol;unfold SM.Mem.fileS;rw[if_neg (by omega),if_neg (by omega),if_neg (by omega),if_neg (by omega),if_pos d2];unfold SM.Mem.listS;simp only
   rw[if_neg (by rw[d1];simp)];unfold SM.Mem.speaksFile at sp;simp only at sp;rw[if_pos d2,d1]at sp;simp only[Bool.not_true,Bool.false_or,Bool.and_eq_true,decide_eq_true_eq]at sp;obtain⟨sp1,sp2⟩:=sp;have hcl:(m.children (m.node hd.node).name).length<=m.names.length:=List.length_filter_le _ _;have hnn:=h.nn;have hL:∀N:Nat,(N:Int)<=(m.children (m.node hd.node).name).length - hd.listed->InvG (n+500) (l+500) (c+8192) (m.setH s.h {hd with listed:=hd.listed+N}):=λN hN=>wk (h.setH g1 ⟨by simp only;omega,by simp only;omega⟩ g3)
   split
   all_goals
    refine hL _ ?_;simp only[List.length_take,List.length_drop]<;>omega
  ·by_cases dd:(m.node hd.node).dir=true
   ·have ops:s.op=18\/s.op=21\/s.op=22\/s.op=23:=by
     unfold SM.Mem.speaksFile at sp;simp only[dd,Bool.true_or,if_true]at sp;by_cases cc:s.op=18\/s.op=21\/s.op=22\/s.op=23
     ·exact cc
     ·rw[if_neg (λq=>ol ⟨dd,q⟩),if_neg cc]at sp;cases sp
    rw[znx s e g1 (λq=>absurd ⟨dd,q⟩ ol)];obtain⟨k1,k2⟩:=zi8 (m.node hd.node) hd s;have k3:=(zi9 (m.node hd.node) hd s).1;have pp:(zbf (m.node hd.node) hd s).1.data=(m.node hd.node).data/\(zbf (m.node hd.node) hd s).1.mode=(m.node hd.node).mode/\(zbf (m.node hd.node) hd s).2.1.pos=hd.pos:=by
     rcases ops with q|q|q|q
     ·rw[znb q];cases hd.ro<;>exact⟨rfl,rfl,rfl⟩
     ·rw[znn q];exact⟨rfl,rfl,rfl⟩
     ·rw[znj q];exact⟨rfl,rfl,rfl⟩
     ·rw[znc q];exact⟨rfl,rfl,rfl⟩
    exact wk (zpO h (Int.le_refl _) e (by rw[k2];exact an.1) (by rw[pp.1];exact an.2.1) (by rw[pp.2.1];exact an.2.2) k3 (by rw[k1];exact g2) (by rw[pp.2.2];exact g3))
   ·have dd:(m.node hd.node).dir=false:=by simpa using dd
    have SP:=ztE (m:=m) (s:=s) rfl dd (by omega) (by omega) sp;rw[znx s e g1 (λ_=>dd)];obtain⟨k1,k2⟩:=zi8 (m.node hd.node) hd s;have k3:=(zi9 (m.node hd.node) hd s).1;obtain⟨f1,f2,f3⟩:=zrm dd SP hc an.2.1 (by omega) an.2.2 g3;exact(zpO h (c':=c+8192) (by omega) e (by rw[k2];exact an.1) f1 f2 k3 (by rw[k1];exact g2) f3).to (by omega) (by omega) (Int.le_refl _)
theorem Inv.step{k:Nat}(h:Inv k m)(hk:k<=1000){s:SM.Stp}(sp:m.speaks s=true)(i:Int):Inv (k+1) (m.doS i s).1:=by have:=InvG.step h (by omega) (by omega) sp i;exact this.to (by omega) (by omega) (by omega)
theorem Inv.mb{k:Nat}{m:SM.Mem}(h:Inv k m)(hk:k<=1000):MB m:=InvG.mb h (by omega) (by omega)
theorem Inv.hb{k:Nat}{m:SM.Mem}(h:Inv k m):HB m:=InvG.hb h
theorem Inv.fb{k:Nat}{m:SM.Mem}(h:Inv k m)(hk:k<=1000){s:SM.Stp}(hf:s.op<18->-1099511627776<=s.off/\s.off<=1099511627776)(hn:s.op<18->s.n<=4096)(hdl:s.data.length<=4096):∀hd,SM.hget m.hs s.h=some hd->FB m hd s/\0<=hd.listed:=λhd hj=>by obtain⟨h1,h2,h3⟩:=h.hd _ _ hj;have hm:=h.dl _ (List.getElem_mem h1);rw[<-zdZ h1]at hm;exact⟨⟨h1,by omega,by omega,by omega,λq=>by have:=hf q;omega,λq=>by have:=hn q;omega,by omega,by omega⟩,h2.1⟩
theorem Inv.start:Inv 0 SM0:=by refine⟨⟨by simp[SM0],by simp[SM0],by simp[SM0]⟩,by decide,by simp[SM0],by simp[SM0],by simp[SM0],by simp[SM0],by simp[SM0],λj h hj=>by cases hj⟩
end
end Go.Proofs.YtdljebgllipdjaaGreatDoor.X
end
section
namespace Go.Proofs.YtdljebgllipdjaaGreatDoor.X
open Go Go.X Go.Proofs Go.RowKit Go.X.PM Go.Lib
theorem FsI.mi{w w0:World}{F0:Fp}{B p:Nat}{m:SM.Mem}{hp:Int->Nat}{se:Nat->Nat×Nat}(h:FsI w0 F0 w B p m hp se):SM.MI m none:=by obtain⟨s,mb,rep,ps,h,r⟩:=h;exact r.mi
theorem mi0:SM.MI SM0 none:=(rel0 (hp:=λ_=>0) 0).mi
theorem FsT.mi{w w0:World}{F0:Fp}{B p:Nat}{m:SM.Mem}{hp:Int->Nat}{se:Nat->Nat×Nat}(h:FsT w0 F0 w B p m hp se):SM.MI m none:=by
 rcases h with h|h
 ·exact h.mi
 ·rw[h.m0];exact mi0
structure MC(w0 w:World)(p hb tb sb:Nat)(m:SM.Mem)(hp:Int->Nat)(se:Nat->Nat×Nat)(F:Fp)(av:Value)(n:Nat)(az:List SM.Ans)(cs:List (List Value))(q:SM.Stp)(x:Value)(k:Nat):Prop where
 J:MJ w0 w p hb m hp se F
 G:MO9 w0 w hb (·=tb) F av n az cs
 hn:n<=1000000
 ht:bk w tb=some (CB ansZ T.ab)
 htb:¬F.own tb/\w0.heap.size<=tb/\av.ownBlock≠some tb
 hs:bk w sb=some (CB (zba q x) T.ae)
 hx:BS w x q.data
 inv:Inv k m
 hk:k<=70
 sp:m.speaks q=true
section
variable{w w' w0:World}{F0 F:Fp}{K:Value->World->Prop}{B p hb tb sb:Nat}{se:Nat->Nat×Nat}
 {m m':SM.Mem} {hp hp':Int->Nat} {av:Value} {n k:Nat} {az:List SM.Ans} {cs:List (List Value)} {q:SM.Stp} {x:Value} {i:Int}
 {k3:List Value->World->Prop}
abbrev MK(w0:World)(p hb tb:Nat)(m:SM.Mem)(se:Nat->Nat×Nat)(n:Nat)(az:List SM.Ans)(q:SM.Stp)(i:Int)(k3:List Value->World->Prop):Prop:=∀w' av' cs' F' hp',MJ w0 w' p hb (m.doS i q).1 hp' se F'->MO9 w0 w' hb (·=tb) F' av' (n+1) (az++[(m.doS i q).2]) cs'->k3 [av'] w'
abbrev K4(tb hb:Nat)(k3:List Value->World->Prop)(av:Value)(i:Int):List Value->World->Prop:=λs w=>∀u,za6 (pt tb 0) k3 (.map (some hb)) [av,.int .i64 i] s u w
theorem zo6(sp:m.speaks q=true)(ho:0<=q.op/\q.op<=2):q.name.length<=400/\SM.zbE q.name=true/\m.speaksOpen q=true:=by
 unfold SM.Mem.speaks at sp;by_cases c0:400<q.name.length\/400<q.other.length\/4096<q.data.length
 ·rw[if_pos c0]at sp;cases sp
 rw[if_neg c0,if_pos ho]at sp;refine⟨by omega,?_,sp⟩;unfold SM.Mem.speaksOpen at sp;simp only at sp;cases hn:SM.zbE q.name with
 |true=>rfl
 |false=>rw[if_pos hn]at sp;cases sp
theorem zfr(sp:m.speaks q=true)(ho:3<=q.op/\q.op<=11):q.name.length<=400/\q.other.length<=400/\SM.zbE q.name=true/\m.speaksNames q=true:=by
 unfold SM.Mem.speaks at sp;by_cases c0:400<q.name.length\/400<q.other.length\/4096<q.data.length
 ·rw[if_pos c0]at sp;cases sp
 rw[if_neg c0,if_neg (by omega),if_pos ho]at sp;refine⟨by omega,by omega,?_,sp⟩;unfold SM.Mem.speaksNames at sp;simp only at sp;cases hn:SM.zbE q.name with
 |true=>rfl
 |false=>rw[if_pos hn]at sp;cases sp
theorem znz(m:SM.Mem)(i:Int)(q:SM.Stp)(ho:0<=q.op/\q.op<=2):m.doS i q=m.openS i q:=by unfold SM.Mem.doS;rw[if_pos ho]
theorem zdG(m:SM.Mem)(i:Int)(q:SM.Stp)(ho:3<=q.op/\q.op<=11):m.doS i q=m.namesS q:=by unfold SM.Mem.doS;rw[if_neg (by omega),if_pos ho]
theorem zlC{m m':SM.Mem}(e:m'.hs=m.hs)(hp:Int->Nat):∀j,(SM.hget m'.hs j).map (λ_=>pt (hp j) 0)=(SM.hget m.hs j).map λ_=>pt (hp j) 0:=λj=>by rw[e]
theorem znm{m:SM.Mem}(h:SM.MI m none)(l:Str)(perm:Int)(nd:SM.Node):((m.parents l perm).add l nd).hs=m.hs:=by obtain⟨p1,p2,p3,⟨x,p4,p5⟩,p6⟩:=SM.zeS perm h.root (l.length+2) l h.wf;exact(SM.zeC (m:=m.parents l perm) p1 l nd).2.2.2.2.1.trans p6
set_option maxHeartbeats 1000000
theorem mem6(g:MC w0 w p hb tb sb m hp se F av n az cs q x k)(ho:q.op=0)(hk:MK w0 p hb tb m se n az q i k3):zdR (pt sb 0) w (pt p 0) (K4 tb hb k3 av i) [av,.int .i64 i]:=by obtain⟨s1,s2,s3⟩:=zo6 g.sp (by omega);have mi:=g.J.fs.mi;have hsb:=g.hs;unfold MK at hk;rw[znz m i q (by omega)]at hk;unfold SM.Mem.openS at hk;simp only at hk;rw[if_pos ho]at hk;unfold SM.Mem.speaksOpen at s3;simp only at s3;rw[if_neg (by rw[s2];simp),if_pos ho]at s3;simp only[Bool.and_eq_true,Bool.not_eq_true']at s3;unfold zdR;simp(disch:=first|omega|(simp(disch:=first|omega|fail)only[go_sem,hsb]<;>omega)|fail)only[go_sem,hsb];refine zl8 (w0:=w) (F0:=F) g.J.fs s2 mi.rt s3.1 s3.2 λw' f h2=>?_;simp(disch:=first|omega|(simp(disch:=first|omega|fail)only[go_sem]<;>omega)|fail)only[go_sem];intro u;exact zny g.J g.G g.hn g.ht g.htb h2 (znm mi _ _ _) λw' av' cs' F'=>hk w' av' cs' F' _
theorem zc1{g:Nat}(hg:g∈four){C:Nat}{x:Value}{op:Str}(h:PE w C x op (se g)):ErrV w C se (zck g) x:=.inr (.inr (.inl ⟨g,hg,op,h,rfl⟩))
theorem mem7(g:MC w0 w p hb tb sb m hp se F av n az cs q x k)(ho:q.op=1)(hk:MK w0 p hb tb m se n az q i k3):zfL (pt sb 0) w (pt p 0) (K4 tb hb k3 av i) [av,.int .i64 i]:=by
 obtain⟨s1,s2,s3⟩:=zo6 g.sp (by omega);have mi:=g.J.fs.mi;have hsb:=g.hs;unfold MK at hk;rw[znz m i q (by omega)]at hk;unfold SM.Mem.openS at hk;simp only at hk;rw[if_neg (by omega),if_pos ho]at hk;unfold zfL;simp(disch:=first|omega|(simp(disch:=first|omega|fail)only[go_sem,hsb]<;>omega)|fail)only[go_sem,hsb];refine zlX (w0:=w) (F0:=F) g.J.fs (by omega) (λe w' y h2 h3=>?_) λy w' f e h2=>?_
 ·rw[e]at hk;simp(disch:=first|omega|(simp(disch:=first|omega|fail)only[go_sem]<;>omega)|fail)only[go_sem];intro u;exact zbr g.J g.G g.hn g.ht g.htb (.inl h2) (λj=>rfl) (zc1 (by decide) h3) g.J.bel.size λw' av' cs' F'=>hk w' av' cs' F' hp
 ·rw[e]at hk;simp(disch:=first|omega|(simp(disch:=first|omega|fail)only[go_sem]<;>omega)|fail)only[go_sem];intro u;exact zny g.J g.G g.hn g.ht g.htb h2 rfl λw' av' cs' F'=>hk w' av' cs' F' _
theorem sp2(sp:m.speaksOpen q=true)(hn:SM.zbE q.name=true)(ho:q.op=2):(m.find (norm q.name)=none->SM.has q.flag 64=true->m.clear (norm q.name)=true):=λhf h64=>by
 unfold SM.Mem.speaksOpen at sp;simp only at sp;rw[if_neg (by rw[hn];simp),if_neg (by omega),if_neg (by omega),hf]at sp;unfold SM.has at h64;simp only[Bool.and_eq_true,Option.isSome_none,Bool.false_or,Bool.or_eq_true,decide_eq_true_eq]at sp h64;rcases sp.1.2 with e|e
 ·exact absurd e h64
 ·exact e
theorem mem8(g:MC w0 w p hb tb sb m hp se F av n az cs q x k)(ho:q.op=2)(hk:MK w0 p hb tb m se n az q i k3):zfH (pt sb 0) w (pt p 0) (K4 tb hb k3 av i) [av,.int .i64 i]:=by
 obtain⟨s1,s2,s3⟩:=zo6 g.sp (by omega);have mi:=g.J.fs.mi;have hsb:=g.hs;unfold MK at hk;rw[znz m i q (by omega)]at hk;unfold SM.Mem.openS at hk;simp only at hk;rw[if_neg (by omega),if_neg (by omega)]at hk;unfold zfH;simp(disch:=first|omega|(simp(disch:=first|omega|fail)only[go_sem,hsb]<;>omega)|fail)only[go_sem,hsb];have dat:∀y,y<m.nodes.length->(m.node y).data.length<=281474976710:=λy hy=>by have:=(g.inv.node hy).2.1;omega
 refine znd (w0:=w) (F0:=F) g.J.fs s2 mi.rt (sp2 s3 s2 ho) dat (λe1 e2 w' y h2 h3=>?_) (λe1 e2 w' y h2 h3=>?_) (λy e1 e2 w' f h2=>?_) λe1 e2 w' f h2=>?_
 ·rw[if_pos (by rw[e1,e2];rfl)]at hk;simp(disch:=first|omega|(simp(disch:=first|omega|fail)only[go_sem]<;>omega)|fail)only[go_sem];intro u;exact zbr g.J g.G g.hn g.ht g.htb (.inl h2) (λj=>rfl) (zc1 (by decide) h3) g.J.bel.size λw' av' cs' F'=>hk w' av' cs' F' hp
 ·rw[if_neg (by rw[e1];simp),if_pos (by rw[e1,e2];rfl)]at hk;simp(disch:=first|omega|(simp(disch:=first|omega|fail)only[go_sem]<;>omega)|fail)only[go_sem];intro u;exact zbr g.J g.G g.hn g.ht g.htb (.inl h2) (λj=>rfl) (zc1 (by decide) h3) g.J.bel.size λw' av' cs' F'=>hk w' av' cs' F' hp
 ·rw[if_neg (by rw[e2];simp),if_neg (by rw[e1];simp),e1]at hk;simp only[Option.isNone_some,Bool.false_eq_true,if_false]at hk;simp(disch:=first|omega|(simp(disch:=first|omega|fail)only[go_sem]<;>omega)|fail)only[go_sem];intro u;exact zny g.J g.G g.hn g.ht g.htb h2 (by unfold trn;split<;>rfl) λw' av' cs' F'=>hk w' av' cs' F' _
 ·rw[if_neg (by rw[e1];simp),if_neg (by rw[e2];simp),e1]at hk;simp only[Option.isNone_none,if_true]at hk;simp(disch:=first|omega|(simp(disch:=first|omega|fail)only[go_sem]<;>omega)|fail)only[go_sem];intro u;have hd:(((m.parents (norm q.name) 0).add (norm q.name) ⟨false,andI q.perm SM.zan,[],0,[]⟩).node (m.parents (norm q.name) 0).nodes.length).data=[]:=by obtain⟨p1,p2,p3,⟨x,p4,p5⟩,p6⟩:=SM.zeS 0 mi.root ((norm q.name).length+2) (norm q.name) mi.wf;have:=(SM.zfs (m:=m.parents (norm q.name) 0) p1 (norm q.name) ⟨false,andI q.perm SM.zan,[],0,[]⟩).2;rw[this]
  have e0:(if SM.has q.flag 1024=true then((((m.parents (norm q.name) 0).add (norm q.name) ⟨false,andI q.perm SM.zan,[],0,[]⟩).node (m.parents (norm q.name) 0).nodes.length).data.length:Int)else 0)=0:=by rw[hd];split<;>rfl
  rw[e0]at hk;exact zny g.J g.G g.hn g.ht g.htb h2 (by unfold trn;split<;>exact znm mi _ _ _) λw' av' cs' F'=>hk w' av' cs' F' _
theorem mem9(g:MC w0 w p hb tb sb m hp se F av n az cs q x k)(ho:q.op=3)(hk:MK w0 p hb tb m se n az q i k3):zfI (pt sb 0) w (pt p 0) (K4 tb hb k3 av i) [av,.int .i64 i]:=by
 obtain⟨s1,s2,s3,s4⟩:=zfr g.sp (by omega);have mi:=g.J.fs.mi;have hsb:=g.hs;unfold MK at hk;rw[zdG m i q (by omega)]at hk;unfold SM.Mem.namesS at hk;simp only at hk;rw[if_neg (by omega),if_pos (by omega)]at hk;unfold SM.Mem.speaksNames at s4;simp only at s4;rw[if_neg (by rw[s3];simp),if_pos (by omega)]at s4;unfold zfI;simp(disch:=first|omega|(simp(disch:=first|omega|fail)only[go_sem,hsb]<;>omega)|fail)only[go_sem,hsb];refine zmQ (w0:=w) (F0:=F) g.J.fs s3 (λe=>by rw[e]at s4;simpa using s4) (λe w' y h2 h3=>?_) λe w' h2=>?_
 ·rw[if_pos (by rw[e];simp[ho])]at hk;intro u;exact zbr g.J g.G g.hn g.ht g.htb (.inl h2) (λj=>rfl) (zc1 (by decide) h3) g.J.bel.size λw' av' cs' F'=>hk w' av' cs' F' hp
 ·rw[if_neg (by rw[e];simp),if_pos (by rw[e];rfl)]at hk;intro u;exact zbr g.J g.G g.hn g.ht g.htb (.inl h2) (zlC (znm mi _ _ _) hp) (ErrV.nil _ w.heap.size _) g.J.bel.size λw' av' cs' F'=>hk w' av' cs' F' hp
theorem mem10(g:MC w0 w p hb tb sb m hp se F av n az cs q x k)(ho:q.op=4)(hk:MK w0 p hb tb m se n az q i k3):ze5 (pt sb 0) w (pt p 0) (K4 tb hb k3 av i) [av,.int .i64 i]:=by
 obtain⟨s1,s2,s3,s4⟩:=zfr g.sp (by omega);have mi:=g.J.fs.mi;have hsb:=g.hs;unfold MK at hk;rw[zdG m i q (by omega)]at hk;unfold SM.Mem.namesS at hk;simp only at hk;rw[if_neg (by omega),if_pos (by omega),if_neg (by simp[ho])]at hk;unfold SM.Mem.speaksNames at s4;simp only at s4;rw[if_neg (by rw[s3];simp),if_pos (by omega)]at s4;unfold ze5;simp(disch:=first|omega|(simp(disch:=first|omega|fail)only[go_sem,hsb]<;>omega)|fail)only[go_sem,hsb];refine znw (w0:=w) (F0:=F) g.J.fs s3 (λe=>by rw[e]at s4;simpa using s4) (λe w' h2=>?_) λe w' h2=>?_
 ·rw[if_neg (by cases e':m.find (norm q.name)with|none=>rw[e']at e;cases e|some z=>simp)]at hk;intro u;exact zbr g.J g.G g.hn g.ht g.htb (.inl h2) (λj=>rfl) (ErrV.nil _ w.heap.size _) g.J.bel.size λw' av' cs' F'=>hk w' av' cs' F' hp
 ·rw[if_pos (by rw[e];rfl)]at hk;intro u;exact zbr g.J g.G g.hn g.ht g.htb (.inl h2) (zlC (znm mi _ _ _) hp) (ErrV.nil _ w.heap.size _) g.J.bel.size λw' av' cs' F'=>hk w' av' cs' F' hp
theorem memRm(g:MC w0 w p hb tb sb m hp se F av n az cs q x k)(ho:q.op=5)(hk:MK w0 p hb tb m se n az q i k3):Cl P Fn.aE #[pt p 0,S q.name] w λt98 w44=>K4 tb hb k3 av i [av,t98,.pointer none,.pointer none] w44:=by
 obtain⟨s1,s2,s3,s4⟩:=zfr g.sp (by omega);have mi:=g.J.fs.mi;unfold MK at hk;rw[zdG m i q (by omega)]at hk;unfold SM.Mem.namesS at hk;simp only at hk;rw[if_neg (by omega),if_neg (by omega),if_neg (by omega),if_neg (by omega)]at hk;unfold SM.Mem.speaksNames at s4;simp only at s4;rw[if_neg (by rw[s3];simp),if_neg (by omega),if_pos ho]at s4;simp only[Bool.and_eq_true,decide_eq_true_eq]at s4;refine zoV (w0:=w) (F0:=F) g.J.fs s3 s4.1 s4.2 (λe w' y h2 h3=>?_) λe w' h2=>?_
 ·rw[e]at hk;intro u;exact zbr g.J g.G g.hn g.ht g.htb (.inl h2) (λj=>rfl) (zc1 (by decide) h3) g.J.bel.size λw' av' cs' F'=>hk w' av' cs' F' hp
 ·cases e':m.find (norm q.name)with
  |none=>rw[e']at e;cases e
  |some z=>rw[e']at hk;simp only[if_pos ho]at hk;intro u;exact zbr g.J g.G g.hn g.ht g.htb (.inl h2) (zlC (SM.zcm m _).2 hp) (ErrV.nil _ w.heap.size _) g.J.bel.size λw' av' cs' F'=>hk w' av' cs' F' hp
theorem memRa(g:MC w0 w p hb tb sb m hp se F av n az cs q x k)(ho:q.op=6)(hk:MK w0 p hb tb m se n az q i k3):Cl P Fn.ay #[pt p 0,S q.name] w λt98 w44=>K4 tb hb k3 av i [av,t98,.pointer none,.pointer none] w44:=by obtain⟨s1,s2,s3,s4⟩:=zfr g.sp (by omega);have mi:=g.J.fs.mi;unfold MK at hk;rw[zdG m i q (by omega)]at hk;unfold SM.Mem.namesS at hk;simp only at hk;rw[if_neg (by omega),if_neg (by omega),if_pos ho]at hk;unfold SM.Mem.speaksNames at s4;simp only at s4;rw[if_neg (by rw[s3];simp),if_neg (by omega),if_neg (by omega),if_pos ho]at s4;simp only[decide_eq_true_eq]at s4;have:=g.hk;refine zmo (w0:=w) (F0:=F) g.J.fs s3 s4 (by have:=g.inv.nn;omega) (λy hy=>by have:=g.inv.nl y hy;omega) λw' h2=>?_;intro u;exact zbr g.J g.G g.hn g.ht g.htb (.inl h2) (zlC (SM.zjS _ mi.wf).2.2.2 hp) (ErrV.nil _ w.heap.size _) g.J.bel.size λw' av' cs' F'=>hk w' av' cs' F' hp
end
section
variable{w w' w0:World}{F0 F:Fp}{K:Value->World->Prop}{B p hb tb sb:Nat}{se:Nat->Nat×Nat}
 {m m':SM.Mem} {hp hp':Int->Nat} {av:Value} {n k:Nat} {az:List SM.Ans} {cs:List (List Value)} {q:SM.Stp} {x:Value} {i:Int}
 {k3:List Value->World->Prop}
set_option maxHeartbeats 1000000
theorem zra(src dst:Str):∀(L:List Str)(m:SM.Mem),(L.foldl (λm n=>m.moved src dst n) m).hs=m.hs
 |[],m=>rfl
 |y::L,m=>by rw[List.foldl_cons,zra src dst L];exact(zja m src dst y 0).2.2.2.1
theorem zqj{m:SM.Mem}(h:SM.MI m none)(a b:Str):(m.renameS a b).1.hs=m.hs:=by
 unfold SM.Mem.renameS;split
 ·rfl
 ·split
  ·rfl
  ·simp only
   rw[zra];obtain⟨p1,p2,p3,⟨x,p4,p5⟩,p6⟩:=SM.zeS 0 h.root (b.length+2) b h.wf;exact p6
theorem mem11(g:MC w0 w p hb tb sb m hp se F av n az cs q x k)(ho:q.op=7)(hk:MK w0 p hb tb m se n az q i k3):ze4 (pt sb 0) w (pt p 0) (K4 tb hb k3 av i) [av,.int .i64 i]:=by
 obtain⟨s1,s2,s3,s4⟩:=zfr g.sp (by omega);have mi:=g.J.fs.mi;have hsb:=g.hs;unfold MK at hk;rw[zdG m i q (by omega)]at hk;unfold SM.Mem.namesS at hk;simp only at hk;rw[if_neg (by omega),if_neg (by omega),if_neg (by omega),if_pos ho]at hk;unfold SM.Mem.speaksNames at s4;simp only at s4;rw[if_neg (by rw[s3];simp),if_neg (by omega),if_neg (by omega),if_neg (by omega),if_pos ho]at s4;simp only[Bool.and_eq_true,Bool.or_eq_true,decide_eq_true_eq,Bool.not_eq_true']at s4;obtain⟨s5,s6⟩:=s4;have hs6:norm q.name=norm q.other\/(norm q.name≠[47]/\norm q.other≠[47]/\SM.below (norm q.other) (norm q.name)=false/\m.isDir (norm q.other)=false/\m.clear (norm q.other)=true):=by
  rcases s6 with e|⟨⟨⟨⟨e1,e2⟩,e3⟩,e4⟩,e5⟩
  ·exact .inl e
  ·exact .inr ⟨e1,e2,e3,e4,e5⟩
 have:=g.hk;have hR:=zqj mi (norm q.name) (norm q.other);unfold ze4;simp(disch:=first|omega|(simp(disch:=first|omega|fail)only[go_sem,hsb]<;>omega)|fail)only[go_sem,hsb];refine zoe (w0:=w) (F0:=F) g.J.fs s3 s5 hs6 (by have:=g.inv.nn;omega) (λy hy=>by have:=g.inv.nl y hy;omega) (λe1 e2 w' y h2 h3=>?_) λe w' h2=>?_
 ·unfold SM.Mem.renameS at hk;rw[if_neg e1,if_pos (by rw[e2];rfl)]at hk;intro u;exact zbr g.J g.G g.hn g.ht g.htb h2 (λj=>rfl) (zc1 (by decide) h3) g.J.bel.size λw' av' cs' F'=>hk w' av' cs' F' hp
 ·have ea:(m.renameS (norm q.name) (norm q.other)).2=SM.Ans.z:=by
   unfold SM.Mem.renameS;by_cases c:norm q.name=norm q.other
   ·rw[if_pos c]
   ·have e:=e.resolve_left c;rw[if_neg c,if_neg (by cases e':m.find (norm q.name)with|none=>rw[e']at e;cases e|some z=>simp)]
  rw[ea]at hk;intro u;exact zbr g.J g.G g.hn g.ht g.htb h2 (zlC hR hp) (ErrV.nil _ w.heap.size _) g.J.bel.size λw' av' cs' F'=>hk w' av' cs' F' hp
theorem mem12(g:MC w0 w p hb tb sb m hp se F av n az cs q x k)(ho:q.op=8)(hk:MK w0 p hb tb m se n az q i k3):ze2 (pt sb 0) w (pt p 0) (K4 tb hb k3 av i) [av,.int .i64 i]:=by
 obtain⟨s1,s2,s3,s4⟩:=zfr g.sp (by omega);have mi:=g.J.fs.mi;have hsb:=g.hs;unfold MK at hk;rw[zdG m i q (by omega)]at hk;unfold SM.Mem.namesS at hk;simp only at hk;rw[if_neg (by omega),if_neg (by omega),if_neg (by omega),if_neg (by omega)]at hk;unfold ze2;have:=g.hk;simp(disch:=first|omega|(simp(disch:=first|omega|fail)only[go_sem,hsb]<;>omega)|fail)only[go_sem,hsb];refine zrw (w0:=w) (F0:=F) g.J.fs (by omega) (λy hy=>(g.inv.node hy).2.2) (λy hy=>by have:=(g.inv.node hy).1;omega) (λe w' y h2 h3=>?_) λy fi w' e h2 h3 h4 h5=>?_
 ·rw[e]at hk;simp(disch:=first|omega|(simp(disch:=first|omega|fail)only[go_sem]<;>omega)|fail)only[go_sem];intro u;exact zbr g.J g.G g.hn g.ht g.htb (.inl h2) (λj=>rfl) (zc1 (by decide) h3) g.J.bel.size λw' av' cs' F'=>hk w' av' cs' F' hp
 ·rw[e]at hk;simp only at hk;rw[if_neg (by omega),if_pos ho]at hk;simp(disch:=first|omega|(simp(disch:=first|omega|fail)only[go_sem]<;>omega)|fail)only[go_sem];intro u;exact memInfo g.J g.G g.hn g.ht g.htb (.inl h2) h5 λw' av' cs' F'=>hk w' av' cs' F' hp
theorem mem13(g:MC w0 w p hb tb sb m hp se F av n az cs q x k)(ho:q.op=9)(hk:MK w0 p hb tb m se n az q i k3):ze6 (pt sb 0) w (pt p 0) (K4 tb hb k3 av i) [av,.int .i64 i]:=by
 obtain⟨s1,s2,s3,s4⟩:=zfr g.sp (by omega);have mi:=g.J.fs.mi;have hsb:=g.hs;unfold MK at hk;rw[zdG m i q (by omega)]at hk;unfold SM.Mem.namesS at hk;simp only at hk;unfold ze6;simp(disch:=first|omega|(simp(disch:=first|omega|fail)only[go_sem,hsb]<;>omega)|fail)only[go_sem,hsb];refine zqr (w0:=w) (F0:=F) g.J.fs (by omega) (λy hy=>(g.inv.node hy).2.2) (λe w' y h2 h3=>?_) λy w' e h2=>?_
 ·have hk':∀w' av' cs' F' hp',MJ w0 w' p hb m hp' se F'->MO9 w0 w' hb (·=tb) F' av' (n+1) (az++[SM.Ans.err 1]) cs'->k3 [av'] w':=by
   by_cases c:norm q.name=q.name
   ·rw[if_neg (by simp[c]),if_neg (by omega),if_neg (by omega),if_neg (by omega),c,e]at hk;exact hk
   ·rw[if_pos ⟨ho,c⟩]at hk;exact hk
  intro u;exact zbr g.J g.G g.hn g.ht g.htb (.inl h2) (λj=>rfl) (zc1 (by decide) h3) g.J.bel.size λw' av' cs' F'=>hk' w' av' cs' F' hp
 ·have c:=(SM.zc5 (mi.kp _ _ e)).1;rw[if_neg (by simp[c]),if_neg (by omega),if_neg (by omega),if_neg (by omega),c,e]at hk;simp only at hk;rw[if_neg (by omega),if_neg (by omega),if_pos ho]at hk;intro u;exact zbr g.J g.G g.hn g.ht g.htb (.inl h2) (λj=>rfl) (ErrV.nil _ w.heap.size _) g.J.bel.size λw' av' cs' F'=>hk w' av' cs' F' hp
theorem mem14(g:MC w0 w p hb tb sb m hp se F av n az cs q x k)(ho:q.op=10)(hk:MK w0 p hb tb m se n az q i k3):zeW (pt sb 0) w (pt p 0) (K4 tb hb k3 av i) [av,.int .i64 i]:=by
 obtain⟨s1,s2,s3,s4⟩:=zfr g.sp (by omega);have mi:=g.J.fs.mi;have hsb:=g.hs;unfold MK at hk;rw[zdG m i q (by omega)]at hk;unfold SM.Mem.namesS at hk;simp only at hk;rw[if_neg (by omega),if_neg (by omega),if_neg (by omega),if_neg (by omega)]at hk;unfold zeW;simp(disch:=first|omega|(simp(disch:=first|omega|fail)only[go_sem,hsb]<;>omega)|fail)only[go_sem,hsb];refine zqp (w0:=w) (F0:=F) g.J.fs (by omega) (λe w' y h2 h3=>?_) λy w' e h2=>?_
 ·rw[e]at hk;intro u;exact zbr g.J g.G g.hn g.ht g.htb (.inl h2) (λj=>rfl) (zc1 (by decide) h3) g.J.bel.size λw' av' cs' F'=>hk w' av' cs' F' hp
 ·rw[e]at hk;simp only at hk;rw[if_neg (by omega),if_neg (by omega),if_neg (by omega),if_neg (by omega)]at hk;intro u;exact zbr g.J g.G g.hn g.ht g.htb (.inl h2) (λj=>rfl) (ErrV.nil _ w.heap.size _) g.J.bel.size λw' av' cs' F'=>hk w' av' cs' F' hp
theorem mem15(g:MC w0 w p hb tb sb m hp se F av n az cs q x k)(ho:q.op=11)(hk:MK w0 p hb tb m se n az q i k3):ze0 (pt sb 0) w (pt p 0) (K4 tb hb k3 av i) [av,.int .i64 i]:=by
 obtain⟨s1,s2,s3,s4⟩:=zfr g.sp (by omega);have mi:=g.J.fs.mi;have hsb:=g.hs;unfold MK at hk;rw[zdG m i q (by omega)]at hk;unfold SM.Mem.namesS at hk;simp only at hk;rw[if_neg (by omega),if_neg (by omega),if_neg (by omega),if_neg (by omega)]at hk;unfold ze0;simp(disch:=first|omega|(simp(disch:=first|omega|fail)only[go_sem,hsb]<;>omega)|fail)only[go_sem,hsb];refine zoh (w0:=w) (F0:=F) g.J.fs (by omega) (λe w' y h2 h3=>?_) λy w' e h2=>?_
 ·rw[e]at hk;intro u;exact zbr g.J g.G g.hn g.ht g.htb (.inl h2) (λj=>rfl) (zc1 (by decide) h3) g.J.bel.size λw' av' cs' F'=>hk w' av' cs' F' hp
 ·rw[e]at hk;simp only at hk;rw[if_neg (by omega),if_neg (by omega),if_neg (by omega),if_pos ho]at hk;intro u;exact zbr g.J g.G g.hn g.ht g.htb (.inl h2) (λj=>rfl) (ErrV.nil _ w.heap.size _) g.J.bel.size λw' av' cs' F'=>hk w' av' cs' F' hp
end
theorem zob{α:Type}{l:SM.HM}{k:Int}{h:SM.Hnd}(h':SM.Hnd)(hk:SM.hget l k=some h)(f:Int->α)(j:Int):(SM.hget (SM.hput l k h') j).map (λ_=>f j)=(SM.hget l j).map λ_=>f j:=by
 rw[SM.zbJ];by_cases e:j=k
 ·rw[if_pos e,e,hk];rfl
 ·rw[if_neg e]
theorem zqu{α:Type}{m:SM.Mem}{k:Int}{h:SM.Hnd}(s:SM.Stp)(hk:SM.hget m.hs k=some h)(hl:h.node<m.nodes.length)(f:Int->α)(j:Int):(SM.hget (m.fileS k h s).1.hs j).map (λ_=>f j)=(SM.hget m.hs j).map λ_=>f j:=by
 by_cases c:(m.node h.node).dir=true/\(s.op=19\/s.op=20)
 ·unfold SM.Mem.fileS;rw[if_neg (by omega),if_neg (by omega),if_neg (by omega),if_neg (by omega),if_pos c.2];unfold SM.Mem.listS;simp only
  rw[if_neg (by rw[c.1];simp)];exact zob _ hk f j
 ·rw[znx s hk hl λo=>by
   cases e:(m.node h.node).dir with
   |false=>rfl
   |true=>exact absurd ⟨e,o⟩ c]
  exact zob _ hk f j
section
variable{w w' w0:World}{F0 F:Fp}{K:Value->World->Prop}{B p hb tb sb:Nat}{se:Nat->Nat×Nat}
 {m m':SM.Mem} {hp hp':Int->Nat} {av:Value} {n k:Nat} {az:List SM.Ans} {cs:List (List Value)} {q:SM.Stp} {x:Value} {i:Int}
 {k3:List Value->World->Prop}
theorem MJ.afterI{s':PM.St}{mb':Nat}{rep':Nat->Rep}{ps':List Nat}(h:MJ w0 w p hb m hp se F)(h1:PT w F w' w0.heap.size p s' mb' rep' se)(r:PM.Rel s' m' ps' hp' [] none)(hm:∀j,(SM.hget m'.hs j).map (λ_=>pt (hp' j) 0)=(SM.hget m.hs j).map λ_=>pt (hp j) 0):MJ w0 w' p hb m' hp' se (fpOf p mb' s' rep')/\Kp w w' F.own/\∀b,b<w.heap.size->(fpOf p mb' s' rep').own b->F.own b:=by obtain⟨M,c,m1,m2,m3⟩:=h.map;have k:=h1.tr.kp;exact⟨⟨.inl ⟨s',mb',rep',ps',h1.rebase,r⟩,λb hb=>h1.pf.lt b hb,⟨λe=>h.hbn.1 ((h1.tr.st hb (zai m1)).1 e),h.hbn.2⟩,⟨M,c,(k.block hb (zai m1) h.hbn.1).trans m1,m2,λj=>by rw[m3,hm]⟩,h.bel.trans (k.below (λb hb e=>by have:=(h.own b e).1;omega) h.bel.size)⟩,k,λb hb=>(h1.tr.st b hb).1⟩
theorem zsA(w:World)(K:Value->World->Prop)(b:Nat)(k:Int):st P (za1 T.aS (.map (some b)) (.int .i64 k) true) w K=optE (mlI (bk w b)) (λq=>K (tup [(mget q.1 k).getD (.pointer none),.bool (mget q.1 k).isSome]) w) (farK P (za1 T.aS (.map (some b)) (.int .i64 k) true) w K):=luI w U.aB U.int (by kernel_rfl) K b k
set_option maxHeartbeats 1000000
theorem on_none{v:Value}(ho:q.op<12\/23<q.op)(hx:BS w x q.data)(hk:∀w',Below w.heap.size w w'->K (AG (zbv (SM.Ans.err 13) (.slice none 0 0) (.slice none 0 0) (.slice none 0 0))) w'):Cl P Fn.du #[v,AG (zba q x)] w K:=by
 apply zlO;unfold zkc;have one:=zem hx;simp(disch:=first|omega|(simp only[sZb,sZa,sZd]<;>omega)|(simp(disch:=first|omega|(simp only[sZb,sZa,sZd]<;>omega)|fail)only[go_sem,one];done)|fail)only[go_sem,zaE,zaI,zaC,zaG,zaF,w_u8,zaD,Int.reduceToNat,Int.reducePow,Nat.reducePow,one];obtain⟨w1,ew1⟩:∃w1,w1=((w.alloc (CB (zba q x) T.ae)).alloc (CB ansZ T.ab)).alloc (CB ansZ T.ab):=⟨_,rfl⟩;have b0:Below w.heap.size w w1:=by rw[ew1];repeat (first|exact Below.refl _ _|assumption|refine zag ?_ (by first|omega|(simp only[go_sem]<;>omega)) _|refine Below.alloc ?_ (by first|omega|(simp only[go_sem]<;>omega)) _|refine Below.drew ?_)
 have hbs:bk w1 w.heap.size=some (CB (zba q x) T.ae):=by rw[ew1,zav _ _ _ (by simp only[go_sem];omega),zav _ _ _ (by simp only[go_sem];omega),zah _ _ _ rfl]
 have b4:bk w1 (w.heap.size+1)=some (CB ansZ T.ab):=by rw[ew1,zav _ _ _ (by simp only[go_sem];omega),zah _ _ _ (by simp only[go_sem])]
 have b5:bk w1 (w.heap.size+1+1)=some (CB ansZ T.ab):=by rw[ew1,zah _ _ _ (by simp only[go_sem])]
 rw[zeF (by rw[<-ew1];exact b5),<-ew1];have z1:w1.heap.size=w.heap.size+3:=by rw[ew1];simp only[go_sem]
 clear ew1;refine zaa (λ_ _=>False) (λ_ _ _ h=>h.elim) ?_;unfold zgz;simp(disch:=first|omega|(simp only[sZb,sZa,sZd]<;>omega)|(simp(disch:=first|omega|(simp only[sZb,sZa,sZd]<;>omega)|fail)only[go_sem];done)|fail)only[go_sem,zaE,zaI,zaC,zaG,zaF,w_u8,zaD,Int.reduceToNat,Int.reducePow,Nat.reducePow];unfold zgk;simp(disch:=first|omega|(simp only[sZb,sZa,sZd]<;>omega)|(simp(disch:=first|omega|(simp only[sZb,sZa,sZd]<;>omega)|fail)only[go_sem];done)|fail)only[go_sem,zaE,zaI,zaC,zaG,zaF,w_u8,zaD,Int.reduceToNat,Int.reducePow,Nat.reducePow];unfold zgj;simp(disch:=first|omega|(simp only[sZb,sZa,sZd]<;>omega)|(simp(disch:=first|omega|(simp only[sZb,sZa,sZd]<;>omega)|fail)only[go_sem];done)|fail)only[go_sem,zaE,zaI,zaC,zaG,zaF,w_u8,zaD,Int.reduceToNat,Int.reducePow,Nat.reducePow];unfold zgA;simp(disch:=first|omega|(simp only[sZb,sZa,sZd]<;>omega)|(simp(disch:=first|omega|(simp only[sZb,sZa,sZd]<;>omega)|fail)only[go_sem];done)|fail)only[go_sem,zaE,zaI,zaC,zaG,zaF,w_u8,zaD,Int.reduceToNat,Int.reducePow,Nat.reducePow];unfold zgm;simp(disch:=first|omega|(simp only[sZb,sZa,sZd]<;>omega)|(simp(disch:=first|omega|(simp only[sZb,sZa,sZd]<;>omega)|fail)only[go_sem];done)|fail)only[go_sem,zaE,zaI,zaC,zaG,zaF,w_u8,zaD,Int.reduceToNat,Int.reducePow,Nat.reducePow];unfold zgd;simp(disch:=first|omega|(simp only[sZb,sZa,sZd]<;>omega)|(simp(disch:=first|omega|(simp only[sZb,sZa,sZd]<;>omega)|fail)only[go_sem];done)|fail)only[go_sem,zaE,zaI,zaC,zaG,zaF,w_u8,zaD,Int.reduceToNat,Int.reducePow,Nat.reducePow];unfold zgr;simp(disch:=first|omega|(simp only[sZb,sZa,sZd]<;>omega)|(simp(disch:=first|omega|(simp only[sZb,sZa,sZd]<;>omega)|fail)only[go_sem];done)|fail)only[go_sem,zaE,zaI,zaC,zaG,zaF,w_u8,zaD,Int.reduceToNat,Int.reducePow,Nat.reducePow];unfold zgx;simp(disch:=first|omega|(simp only[sZb,sZa,sZd]<;>omega)|(simp(disch:=first|omega|(simp only[sZb,sZa,sZd]<;>omega)|fail)only[go_sem];done)|fail)only[go_sem,zaE,zaI,zaC,zaG,zaF,w_u8,zaD,Int.reduceToNat,Int.reducePow,Nat.reducePow];unfold ziA;simp(disch:=first|omega|(simp only[sZb,sZa,sZd]<;>omega)|(simp(disch:=first|omega|(simp only[sZb,sZa,sZd]<;>omega)|fail)only[go_sem];done)|fail)only[go_sem,zaE,zaI,zaC,zaG,zaF,w_u8,zaD,Int.reduceToNat,Int.reducePow,Nat.reducePow];unfold zeL;simp(disch:=first|omega|(simp only[sZb,sZa,sZd]<;>omega)|(simp(disch:=first|omega|(simp only[sZb,sZa,sZd]<;>omega)|fail)only[go_sem];done)|fail)only[go_sem,zaE,zaI,zaC,zaG,zaF,w_u8,zaD,Int.reduceToNat,Int.reducePow,Nat.reducePow];unfold zig;simp(disch:=first|omega|(simp only[sZb,sZa,sZd]<;>omega)|(simp(disch:=first|omega|(simp only[sZb,sZa,sZd]<;>omega)|fail)only[go_sem,b4];done)|fail)only[go_sem,zaE,zaI,zaC,zaG,zaF,w_u8,zaD,Int.reduceToNat,Int.reducePow,Nat.reducePow,b4];refine hk _ ?_;exact zag b0 (by omega) _
theorem ztx{s6:List Value}{u6:Env}{a:SM.Ans}{c:List Value}(J1:MJ w0 w p hb m hp se F)(G1:MO9 w0 w hb (·=tb) F av n az cs)(hn:n<=1000000)(b1:bk w tb=some (CB c T.ab))(A1:AnsN w w0.heap.size (λb=>F.own b\/b=hb\/av.ownBlock=some b\/b=tb) a c)
  (hk:∀w' av' cs' F',MJ w0 w' p hb m hp se F'->MO9 w0 w' hb (·=tb) F' av' (n+1) (az++[a]) cs'->k3 [av'] w'):zc7 (pt tb 0) [av,.int .i64 i] k3 s6 u6 w:=by
 have fin:=ztG J1 G1 hn A1 hk;obtain⟨x,y,z,rfl,hx,hy,hz,_⟩:=A1;obtain⟨p1,c1,rfl⟩:=zaK hx;obtain⟨p2,c2,rfl⟩:=za8 hy;obtain⟨p3,c3,rfl⟩:=za8 hz;unfold zc7;simp(disch:=first|omega|(simp(disch:=first|omega|fail)only[go_sem,b1]<;>omega)|fail)only[go_sem,b1];exact fin
theorem MJ.turn{c0 c:List Value}(J:MJ w0 w p hb m hp se F)(G:MO9 w0 w hb (·=tb) F av n az cs)(hb0:bk w tb=some (CB c0 T.ab))(htb:¬F.own tb/\w0.heap.size<=tb/\av.ownBlock≠some tb):
  ∃F1,MJ w0 (setb w tb (CB c T.ab)) p hb m hp se F1/\MO9 w0 (setb w tb (CB c T.ab)) hb (·=tb) F1 av n az cs/\(∀b,F1.own b->F.own b)/\bk (setb w tb (CB c T.ab)) tb=some (CB c T.ab)/\Kp w (setb w tb (CB c T.ab)) (·=tb):=by
 have lt:=zai hb0;obtain⟨M,cc,m1,_,_⟩:=J.map;have nhb:tb≠hb:=λe=>by rw[<-e,hb0]at m1;cases m1
 have k1:=Kp.setb w tb (CB c T.ab);obtain⟨F1,J1,G1,f1⟩:=J.else_ G k1 (λb e _=>by rw[e];exact⟨htb.1,nhb,htb.2.1,htb.2.2,rfl⟩) λb e=>by rw[e];exact lt
 exact⟨F1,J1,G1,f1,zar _ _ _ _ rfl lt,k1⟩
theorem mem16{s6:List Value}{a:SM.Ans}{c:List Value}(J:MJ w0 w p hb m hp se F)(G:MO9 w0 w hb (·=tb) F av n az cs)(hn:n<=1000000)(hb0:bk w tb=some (CB ansZ T.ab))(htb:¬F.own tb/\w0.heap.size<=tb/\av.ownBlock≠some tb)(hA:AnsN w w0.heap.size (λb=>F.own b\/b=hb\/av.ownBlock=some b\/b=tb) a c)
  (hk:∀w' av' cs' F',MJ w0 w' p hb m hp se F'->MO9 w0 w' hb (·=tb) F' av' (n+1) (az++[a]) cs'->k3 [av'] w'):
  st P (zaj T.ab (pt tb 0) (AG c)) w λ_ w2=>∀u6,zc7 (pt tb 0) [av,.int .i64 i] k3 s6 u6 w2:=by
 obtain⟨F1,J1,G1,f1,b1,k1⟩:=J.turn (c:=c) G hb0 htb;have A1:AnsN (setb w tb (CB c T.ab)) w0.heap.size (λb=>F1.own b\/b=hb\/av.ownBlock=some b\/b=tb) a c:=AnsN.to (hA.kp k1 λb _ _ hn e=>hn (.inr (.inr (.inr e)))) λb _ _ hn e=>by
  rcases e with e|e
  ·exact hn (.inl (f1 b e))
  ·exact hn (.inr e)
 have fin:=λu6=>ztx (s6:=s6) (u6:=u6) (i:=i) J1 G1 hn b1 A1 hk;obtain⟨x,y,z,rfl,hx,hy,hz,_⟩:=hA;obtain⟨p1,c1,rfl⟩:=zaK hx;obtain⟨p2,c2,rfl⟩:=za8 hy;obtain⟨p3,c3,rfl⟩:=za8 hz;simp(disch:=first|omega|(simp(disch:=first|omega|fail)only[go_sem,hb0]<;>omega)|fail)only[go_sem,hb0];exact fin
theorem zpC(w:World)(lo:Nat)(N:Nat->Prop)(e:Int):AnsN w lo N (SM.Ans.err e) (zbv (SM.Ans.err e) (.slice none 0 0) (.slice none 0 0) (.slice none 0 0)):=⟨_,_,_,rfl,zb5 _,zaS _,zaS _,λb hb=>by rcases hb with h|h|h<;>cases h⟩
theorem mem17(g:MC w0 w p hb tb sb m hp se F av n az cs q x k)(ho:q.op<0\/11<q.op)(hk:MK w0 p hb tb m se n az q i k3):zeZ (pt sb 0) w (.map (some hb)) (pt tb 0) [av,.int .i64 i] k3:=by
 have hsb:=g.hs;have hx:=g.hx;have one:=zem hx;have hgk:=g.hk;obtain⟨M,cc,m1,m2,m3⟩:=g.J.map;unfold MK at hk;unfold SM.Mem.doS at hk;rw[if_neg (by omega),if_neg (by omega)]at hk;have sp:=g.sp;unfold SM.Mem.speaks at sp;by_cases c0:400<q.name.length\/400<q.other.length\/4096<q.data.length
 ·rw[if_pos c0]at sp;cases sp
 rw[if_neg c0,if_neg (by omega),if_neg (by omega)]at sp;unfold zeZ;simp(disch:=first|omega|(simp(disch:=first|omega|fail)only[go_sem,hsb]<;>omega)|fail)only[go_sem,hsb];rw[zsA,m1,zto,zcV,m3];cases e:SM.hget m.hs q.h with
 |none=>rw[e]at hk;simp only[Option.map_none,Option.getD_none,Option.isSome_none];have ht:=g.ht;obtain⟨F1,J1,G1,f1,b1,k1⟩:=g.J.turn (c:=zbv (SM.Ans.err 13) (.slice none 0 0) (.slice none 0 0) (.slice none 0 0)) g.G g.ht g.htb;simp(disch:=first|omega|(simp(disch:=first|omega|fail)only[go_sem]<;>omega)|fail)only[go_sem];refine zaR ?_;simp(disch:=first|omega|(simp(disch:=first|omega|fail)only[go_sem,ht]<;>omega)|fail)only[go_sem,ht];intro u;exact ztx J1 G1 g.hn b1 (zpC _ _ _ _) λw' av' cs' F'=>hk w' av' cs' F' hp
 |some hd=>
  rw[e]at hk sp;simp only[Option.map_some,Option.getD_some,Option.isSome_some];simp(disch:=first|omega|(simp(disch:=first|omega|fail)only[go_sem]<;>omega)|fail)only[go_sem];refine zaR ?_;simp(disch:=first|omega|(simp(disch:=first|omega|fail)only[go_sem,hsb,one]<;>omega)|fail)only[go_sem,hsb,one];by_cases o3:q.op<12\/23<q.op
  ·simp only[if_pos o3]at hk;refine on_none o3 hx λw' B'=>?_;obtain⟨F1,J1,f1⟩:=g.J.old B';have lt:=zai g.ht;exact mem16 (i:=i) (s6:=[]) J1 (g.G.old B' f1) g.hn ((zaH B' lt).trans g.ht) ⟨λq=>g.htb.1 (f1 _ q),g.htb.2⟩ (zpC w' w0.heap.size (λb=>F1.own b\/b=hb\/av.ownBlock=some b\/b=tb) 13) (λw' av' cs' F'=>hk w' av' cs' F' hp)
  ·simp only[if_neg o3]at hk;rcases g.J.fs with⟨s,mb,rep,ps,h,r⟩|h
   ·obtain⟨i1,i2,i3⟩:=g.inv.hd _ _ e;have nd:=g.inv.node i1;refine hstep h r e hx (by omega) sp (by omega) (by have:=g.inv.nn;omega) (λy hy=>(g.inv.node hy).2.2) (λy hy=>by have:=(g.inv.node hy).1;omega) nd.2.1 (by omega) i2.1 λw' c s' rep' h' r' A=>?_;obtain⟨J',K',hF⟩:=g.J.afterI h' r' (zqu q e i1 λj=>pt (hp j) 0);have lt:=zai g.ht;have z:=K'.size;have z0:=g.J.bel.size;have lhb:=zai m1;have A':AnsN w' w0.heap.size (λb=>(fpOf p mb s' rep').own b\/b=hb\/av.ownBlock=some b\/b=tb) (m.fileS q.h hd q).2 c:=by
     obtain⟨x1,y1,z1,a1,a2,a3,a4,a5⟩:=A;refine⟨x1,y1,z1,a1,a2,a3,a4,λb hb'=>?_⟩;obtain⟨l1,l2,l3⟩:=a5 b hb';refine⟨by omega,l2,λo=>?_⟩;rcases o with o|o|o|o
     ·exact l3 o
     ·omega
     ·have:=(zaV g.G.o b o).2;omega
     ·omega
    exact mem16 (i:=i) (s6:=[]) J' (g.G.after K' hF) g.hn ((K'.block tb lt g.htb.1).trans g.ht) ⟨λq=>g.htb.1 (hF _ lt q),g.htb.2⟩ A' (λw' av' cs' F'=>hk w' av' cs' F' hp)
   ·rw[h.m0]at e;cases e
end
end Go.Proofs.YtdljebgllipdjaaGreatDoor.X
end
section
namespace Go.X
open Go
namespace SM
structure Ent where
 name:Str
 mode:Int
 dir:Bool
 data:Str
 time:Int
 deriving DecidableEq
def Mem.ent(m:Mem)(q:Str)(x:Nat):Ent:=⟨q,(m.node x).mode,(m.node x).dir,(m.node x).data,(m.node x).time⟩
def Mem.tree(m:Mem):List Ent:=m.al.map λp=>m.ent p.1 p.2
theorem zqv{m:Mem}(h:Wf m):m.tree.map (·.name)=m.names:=by unfold Mem.tree;rw[List.map_map];have:((λx=>x.name)∘λp:Str×Nat=>m.ent p.1 p.2)=(·.1):=rfl;rw[this,h.al_names]
theorem zhC{m:Mem}(h:Wf m):m.tree.length=m.names.length:=by rw[<-zqv h,List.length_map]
theorem ztc{m:Mem}(h:Wf m)(e:Ent):e∈m.tree↔∃x,m.find e.name=some x/\e=m.ent e.name x:=by
 unfold Mem.tree;rw[List.mem_map];constructor
 ·rintro⟨⟨q,x⟩,hp,rfl⟩;exact⟨x,(zc9 h q x).2 hp,rfl⟩
 ·rintro⟨x,h1,h2⟩;exact⟨(e.name,x),(zc9 h _ x).1 h1,h2.symm⟩
theorem ztd{m:Mem}(h:Wf m){i:Nat}(hi:i<m.names.length):∃x,m.find m.names[i]=some x/\m.tree[i]'(by rw[zhC h];exact hi)=m.ent m.names[i] x:=by
 have ha:i<m.ats.length:=by rw[h.la];exact hi
 have hz:i<(m.names.zip m.ats).length:=by simp;omega
 refine⟨m.ats[i],(zc9 h _ _).2 ?_,?_⟩
 ·show _∈m.names.zip m.ats;rw[List.mem_iff_getElem];exact⟨i,hz,by simp⟩
 ·unfold Mem.tree Mem.al;simp
theorem tree_at{m:Mem}(h:Wf m){i:Nat}(hi:i<m.names.length):m.tree[i]'(by rw[zhC h];exact hi)=m.ent m.names[i] (m.ats[i]'(by rw[h.la];exact hi)):=by unfold Mem.tree Mem.al;simp
def runM:Mem->Int->List Stp->Mem×List Ans
 |m,_,[]=>(m,[])
 |m,i,q::qs=>((runM (m.doS i q).1 (i+1) qs).1,(m.doS i q).2::(runM (m.doS i q).1 (i+1) qs).2)
def zcU:Mem->Int->List Stp->Bool
 |_,_,[]=>true
 |m,i,q::qs=>m.speaks q&&zcU (m.doS i q).1 (i+1) qs
end SM
end Go.X
end
section
namespace Go.Proofs.YtdljebgllipdjaaGreatDoor.X
open Go Go.X Go.Proofs Go.RowKit Go.X.PM Go.Lib
section
variable{w w' w0:World}{F0 F:Fp}{K:Value->World->Prop}{B p hb tb sb:Nat}{se:Nat->Nat×Nat}
 {m m':SM.Mem} {hp hp':Int->Nat} {av:Value} {n k:Nat} {az:List SM.Ans} {cs:List (List Value)} {q:SM.Stp} {x:Value} {i:Int}
 {k3:List Value->World->Prop}
set_option maxHeartbeats 1000000
theorem memAny(g:MC w0 w p hb tb sb m hp se F av n az cs q x k)(hk:MK w0 p hb tb m se n az q i k3):
  cd (.bool (decide (q.op=0))) (zdR (pt sb 0) w (pt p 0) (K4 tb hb k3 av i) [av,.int .i64 i]) (zeX (.int .i64 q.op) (pt sb 0) w (pt p 0) (K4 tb hb k3 av i) [av,.int .i64 i] (.map (some hb)) (pt tb 0) k3):=by
 have hsb:=g.hs;by_cases c:q.op=0
 ·simp(disch:=first|omega|(simp(disch:=first|omega|fail)only[go_sem]<;>omega)|fail)only[go_sem];exact mem6 g c hk
 simp(disch:=first|omega|(simp(disch:=first|omega|fail)only[go_sem]<;>omega)|fail)only[go_sem];unfold zeX;by_cases c:q.op=1
 ·simp(disch:=first|omega|(simp(disch:=first|omega|fail)only[go_sem]<;>omega)|fail)only[go_sem];exact mem7 g c hk
 simp(disch:=first|omega|(simp(disch:=first|omega|fail)only[go_sem]<;>omega)|fail)only[go_sem];unfold zhU;by_cases c:q.op=2
 ·simp(disch:=first|omega|(simp(disch:=first|omega|fail)only[go_sem]<;>omega)|fail)only[go_sem];exact mem8 g c hk
 simp(disch:=first|omega|(simp(disch:=first|omega|fail)only[go_sem]<;>omega)|fail)only[go_sem];unfold zhK;by_cases c:q.op=3
 ·simp(disch:=first|omega|(simp(disch:=first|omega|fail)only[go_sem]<;>omega)|fail)only[go_sem];exact mem9 g c hk
 simp(disch:=first|omega|(simp(disch:=first|omega|fail)only[go_sem]<;>omega)|fail)only[go_sem];unfold zhT;by_cases c:q.op=4
 ·simp(disch:=first|omega|(simp(disch:=first|omega|fail)only[go_sem]<;>omega)|fail)only[go_sem];exact mem10 g c hk
 simp(disch:=first|omega|(simp(disch:=first|omega|fail)only[go_sem]<;>omega)|fail)only[go_sem];unfold zhM;by_cases c:q.op=5
 ·simp(disch:=first|omega|(simp(disch:=first|omega|fail)only[go_sem,hsb]<;>omega)|fail)only[go_sem,hsb];exact memRm g c hk
 simp(disch:=first|omega|(simp(disch:=first|omega|fail)only[go_sem]<;>omega)|fail)only[go_sem];unfold zhN;by_cases c:q.op=6
 ·simp(disch:=first|omega|(simp(disch:=first|omega|fail)only[go_sem,hsb]<;>omega)|fail)only[go_sem,hsb];exact memRa g c hk
 simp(disch:=first|omega|(simp(disch:=first|omega|fail)only[go_sem]<;>omega)|fail)only[go_sem];unfold zhH;by_cases c:q.op=7
 ·simp(disch:=first|omega|(simp(disch:=first|omega|fail)only[go_sem]<;>omega)|fail)only[go_sem];exact mem11 g c hk
 simp(disch:=first|omega|(simp(disch:=first|omega|fail)only[go_sem]<;>omega)|fail)only[go_sem];unfold zhJ;by_cases c:q.op=8
 ·simp(disch:=first|omega|(simp(disch:=first|omega|fail)only[go_sem]<;>omega)|fail)only[go_sem];exact mem12 g c hk
 simp(disch:=first|omega|(simp(disch:=first|omega|fail)only[go_sem]<;>omega)|fail)only[go_sem];unfold zhW;by_cases c:q.op=9
 ·simp(disch:=first|omega|(simp(disch:=first|omega|fail)only[go_sem]<;>omega)|fail)only[go_sem];exact mem13 g c hk
 simp(disch:=first|omega|(simp(disch:=first|omega|fail)only[go_sem]<;>omega)|fail)only[go_sem];unfold zh0;by_cases c:q.op=10
 ·simp(disch:=first|omega|(simp(disch:=first|omega|fail)only[go_sem]<;>omega)|fail)only[go_sem];exact mem14 g c hk
 simp(disch:=first|omega|(simp(disch:=first|omega|fail)only[go_sem]<;>omega)|fail)only[go_sem];unfold zhF;by_cases c:q.op=11
 ·simp(disch:=first|omega|(simp(disch:=first|omega|fail)only[go_sem]<;>omega)|fail)only[go_sem];exact mem15 g c hk
 simp(disch:=first|omega|(simp(disch:=first|omega|fail)only[go_sem]<;>omega)|fail)only[go_sem];exact mem17 g (by omega) hk
theorem zqk(hk:K (pt w.heap.size 0) (w.alloc (CB [.map none] T.aL))):Cl P Fn.cg #[] w K:=by apply zjQ;unfold zfQ;simp(disch:=first|omega|(simp(disch:=first|omega|fail)only[go_sem]<;>omega)|fail)only[go_sem];exact hk
theorem zo8{qs:List SM.Stp}{vs:List Value}{tv:Value}(hq:StepsAt w tv qs vs)(hql:qs.length<=60)(sn:Sn w w.heap.size se)(hsp:SM.zcU SM0 0 qs=true)
  (hk:∀w' p hb hp F av cs,MJ w w' p hb (SM.runM SM0 0 qs).1 hp se F->MO9 w w' hb (λ_=>False) F av qs.length (SM.runM SM0 0 qs).2 cs->Inv qs.length (SM.runM SM0 0 qs).1->K (tup [pt p 0,av]) w'):Cl P Fn.dr #[tv] w K:=by
 apply zng;unfold zka;rw[C.aU];refine zqk ?_;rw[mkI];obtain⟨w1,e1⟩:∃w1,w1=(w.alloc (CB [.map none] T.aL)).alloc (MO emI [] 0):=⟨_,rfl⟩;have B1:Below w.heap.size w w1:=by rw[e1];repeat (first|exact Below.refl _ _|assumption|refine zag ?_ (by first|omega|(simp only[go_sem]<;>omega)) _|refine Below.alloc ?_ (by first|omega|(simp only[go_sem]<;>omega)) _|refine Below.drew ?_)
 have z1:w1.heap.size=w.heap.size+2:=by rw[e1];simp only[go_sem]
 have bp:bk w1 w.heap.size=some (CB [.map none] T.aL):=by rw[e1,zav _ _ _ (by simp only[go_sem];omega),zah _ _ _ rfl]
 have bm:bk w1 (w.heap.size+1)=some (MO emI [] 0):=by rw[e1,zah _ _ _ (by simp only[go_sem])]
 have zz:(w.alloc (CB [.map none] T.aL)).heap.size=w.heap.size+1:=by simp only[go_sem]
 rw[<-e1,zz];clear e1;obtain⟨qa,qc,eq⟩:=hq.slice;refine zaR ?_;rw[eq,V.af,<-eq];clear eq;have J1:MJ w w1 w.heap.size (w.heap.size+1) SM0 (λ_=>0) se ⟨(·=w.heap.size),(·=w.heap.size)⟩:=by
  refine⟨.inr ⟨Nat.le_refl _,bp,rfl,Tr.refl _ _,sn.below B1⟩,λb hb=>?_,⟨λe=>?_,by omega⟩,⟨[],0,bm,MWF.nil 0,λj=>rfl⟩,B1⟩
  ·have:b=w.heap.size:=hb;omega
  ·have:w.heap.size+1=w.heap.size:=e;omega
 have G1:MO9 w w1 (w.heap.size+1) (λ_=>False) ⟨(·=w.heap.size),(·=w.heap.size)⟩ (.slice none 0 0) 0 [] []:=⟨zfx _ _ _ _,λb hb=>(by cases hb),rfl,⟨rfl,λi h1=>absurd h1 (by simp)⟩⟩;refine zay (λt w'=>∃av cs m hp F az,∃i:Nat,t=[av,.int .i64 i]/\i<=qs.length/\MJ w w' w.heap.size (w.heap.size+1) m hp se F/\MO9 w w' (w.heap.size+1) (λ_=>False) F av i az cs/\Inv i m/\SM.zcU m i (qs.drop i)=true/\(SM.runM m i (qs.drop i)).1=(SM.runM SM0 0 qs).1/\az++(SM.runM m i (qs.drop i)).2=(SM.runM SM0 0 qs).2)
  (λt _=>qs.length - (RowKit.intOf (gs t 1)).toNat) ⟨.slice none 0 0,[],SM0,_,_,[],0,rfl,Nat.zero_le _,J1,G1,Inv.start,by simpa using hsp,by simp,by simp⟩ ?_
 rintro t e w3 ⟨av,cs,m,hp,F,az,i,rfl,hi,J3,G3,inv,hs3,hr1,hr2⟩;rw[gs1,gs0,oLss];by_cases g:(i:Int)<qs.length
 ·have hix:i<qs.length:=by omega
  have hiv:i<vs.length:=by rw[hq.1];exact hix
  simp(disch:=first|omega|(simp only[sZb,sZa,sZd]<;>omega)|(simp(disch:=first|omega|(simp only[sZb,sZa,sZd]<;>omega)|fail)only[go_sem];done)|fail)only[go_sem,zaE,zaI,zaC,zaG,zaF,w_u8,zaD,Int.reduceToNat,Int.reducePow,Nat.reducePow];refine zaR ?_;intro u;unfold zhG;rw[gs1];refine zaR ?_;rw[List.drop_eq_getElem_cons hix]at hs3 hr1 hr2;simp only[SM.zcU,SM.runM,Bool.and_eq_true]at hs3 hr1 hr2;obtain⟨okq,okr⟩:=hs3;have hq4:=hq.old J3.bel;obtain⟨b,o,hrow,hbl,ix⟩:=hq4.idx hix hiv;have hqi:=hq4.2.1 i hix hiv;generalize qs[i]=q at*;generalize vs[i]=x at*;have one:=zem hqi;rw[ix];simp(disch:=first|omega|(simp only[sZb,sZa,sZd]<;>omega)|(simp(disch:=first|omega|(simp only[sZb,sZa,sZd]<;>omega)|fail)only[go_sem,hrow,one];done)|fail)only[go_sem,zaE,zaI,zaC,zaG,zaF,w_u8,zaD,Int.reduceToNat,Int.reducePow,Nat.reducePow,hrow,one];obtain⟨w6,e6⟩:∃w6,w6=setb ((setb (w3.alloc (CB [.int .i64 0,S [],S [],.int .i64 0,.int .i64 0,.int .i64 0,.slice none 0 0,.int .i64 0,.int .i64 0,.int .i64 0] T.ae)) w3.heap.size (CB (zba q x) T.ae)).alloc (CB ansZ T.ab)) (w3.heap.size+1) (CB ansZ T.ab):=⟨_,rfl⟩;have B6:Below w3.heap.size w3 w6:=by rw[e6];repeat (first|exact Below.refl _ _|assumption|refine zag ?_ (by first|omega|(simp only[go_sem]<;>omega)) _|refine Below.alloc ?_ (by first|omega|(simp only[go_sem]<;>omega)) _|refine Below.drew ?_)
  have z6:w6.heap.size=w3.heap.size+2:=by rw[e6];simp only[go_sem]
  have b7:bk w6 w3.heap.size=some (CB (zba q x) T.ae):=by rw[e6,zao _ _ _ _ (show w3.heap.size≠w3.heap.size+1 by omega),zav _ _ _ (by simp only[go_sem];omega)];exact zar _ _ _ _ rfl (by simp only[go_sem];omega)
  have b8:bk w6 (w3.heap.size+1)=some (CB ansZ T.ab):=by rw[e6];exact zar _ _ _ _ rfl (by simp only[go_sem];omega)
  rw[<-e6];clear e6;refine zaR ?_;obtain⟨F6,J6,f6⟩:=J3.old B6;have G6:=(G3.tz (Tz':=(·=w3.heap.size+1)) λb hb e=>by omega).old B6 f6;have zz:=J3.bel.size;have C:MC w w6 w.heap.size (w.heap.size+1) (w3.heap.size+1) w3.heap.size m hp se F6 av i az cs q x i:=⟨J6,G6,by omega,b8,⟨λe=>by have:=(J3.own _ (f6 _ e)).2;omega,by omega,λe=>by have:=(zaV G3.o _ e).2;omega⟩,b7,zct hqi B6 (Nat.le_refl _),inv,by omega,okq⟩
  refine memAny C λw9 av9 cs9 F9 hp9 J9 G9=>?_;intro u;unfold zdV;simp(disch:=first|omega|(simp only[sZb,sZa,sZd]<;>omega)|(simp(disch:=first|omega|(simp only[sZb,sZa,sZd]<;>omega)|fail)only[go_sem];done)|fail)only[go_sem,zaE,zaI,zaC,zaG,zaF,w_u8,zaD,Int.reduceToNat,Int.reducePow,Nat.reducePow];refine⟨⟨av9,cs9,(m.doS i q).1,hp9,F9,az++[(m.doS i q).2],i+1,rfl,by omega,J9,G9.tz (λb _ h=>h.elim),inv.step (by omega) okq i,by exact_mod_cast okr,by exact_mod_cast hr1,?_⟩,by simp only[gs1,RowKit.intOf];omega⟩;rw[List.append_assoc];exact_mod_cast hr2
 ·have:i=qs.length:=by omega
  subst this;simp(disch:=first|omega|(simp only[sZb,sZa,sZd]<;>omega)|(simp(disch:=first|omega|(simp only[sZb,sZa,sZd]<;>omega)|fail)only[go_sem];done)|fail)only[go_sem,zaE,zaI,zaC,zaG,zaF,w_u8,zaD,Int.reduceToNat,Int.reducePow,Nat.reducePow];refine zaR ?_;intro u;unfold ziL;simp only[List.drop_length,SM.runM,List.append_nil]at hr1 hr2;rw[hr1]at J3 inv;rw[hr2]at G3;simp(disch:=first|omega|(simp only[sZb,sZa,sZd]<;>omega)|(simp(disch:=first|omega|(simp only[sZb,sZa,sZd]<;>omega)|fail)only[go_sem];done)|fail)only[go_sem,zaE,zaI,zaC,zaG,zaF,w_u8,zaD,Int.reduceToNat,Int.reducePow,Nat.reducePow];exact hk _ _ _ _ _ _ _ J3 G3 inv
end
end Go.Proofs.YtdljebgllipdjaaGreatDoor.X
end
section
namespace Go.Proofs.YtdljebgllipdjaaGreatDoor.X
open Go Go.X Go.Proofs Go.RowKit
theorem zrH{α:Type}(f:α->List Value)(k:Nat):∀(l:List α)(i:Nat)(h:i<l.length),(∀x,(f x).length=k)->(((l.map f).flatten).drop (i*k)).take k=f l[i]
 |x::l,0,_,hf=>by simp only[List.map_cons,List.flatten_cons,Nat.zero_mul,List.drop_zero,List.getElem_cons_zero];rw[List.take_append_of_le_length (by rw[hf];omega),List.take_of_length_le (by rw[hf];omega)]
 |x::l,i+1,h,hf=>by simp only[List.map_cons,List.flatten_cons,List.getElem_cons_succ];rw[List.drop_append,List.drop_of_length_le (by rw[hf,Nat.succ_mul];omega),List.nil_append,hf,show(i+1)*k - k=i*k by rw[Nat.succ_mul];omega];exact zrH f k l i (by simpa using h) hf
section
variable{w w':World}{K:Value->World->Prop}
theorem AnsAt.idx{lo B n cap:Nat}{N:Nat->Prop}{az:List SM.Ans}{cs:List (List Value)}{a:Option Addr}(h:AnsAt w lo N az cs)(o:w.ownsRow B T.ab 6 (.slice a n cap) n (List.flatten cs))(hn:az.length=n){i:Nat}(hi:i<n):
  ∃b p,zaY (bk w b) p 6=some (cs[i]'(by rw[h.1,hn];exact hi))/\∀M:Value->Prop,pu P (zaO T.aI (.slice a n cap) (.int .i64 i)) M=M (pt b p):=by
 have hc:∀c∈cs,c.length=6:=λc hc=>by obtain⟨j,hj,rfl⟩:=List.getElem_of_mem hc;exact(zin (h.2 j hj (by rw[<-h.1];exact hj))).1
 have hl:cs.length=n:=by rw[h.1,hn]
 obtain⟨b,cap',cur,e,h1,h2,h3,h4,h5,h6⟩:=zda o (by omega);injection e with e1 e2 e3;subst e1 e3;have fl:∀(l:List (List Value))(j:Nat)(hj:j<l.length),(∀c∈l,c.length=6)->(l.flatten.drop (j*6)).take 6=l[j]:=λl=>by
  induction l with
  |nil=>intro j hj;exact absurd hj (by simp)
  |cons c l ih=>
   intro j hj hh;have hc0:=hh c (List.mem_cons_self ..);cases j with
   |zero=>simp only[List.flatten_cons,Nat.zero_mul,List.drop_zero,List.getElem_cons_zero];rw[List.take_append_of_le_length (by omega),List.take_of_length_le (by omega)]
   |succ j=>simp only[List.flatten_cons,List.getElem_cons_succ];rw[List.drop_append,List.drop_of_length_le (by omega),List.nil_append,hc0,show(j+1)*6 - 6=j*6 by omega];exact ih j (by simpa using hj) λc hc=>hh c (List.mem_cons_of_mem _ hc)
 refine⟨b,i*6,?_,λM=>?_⟩
 ·rw[h4,zm1 _ _ _ _ (by omega)];congr 1;rw[<-fl cs i (by omega) hc,<-h6,List.drop_take,List.take_take,Nat.min_eq_left (by omega)]
 ·show pu P (zaO T.aI (sl b 0 n cap) (.int .i64 i)) M=_;rw[zhn (size:=6) M U.am (by kernel_rfl) (by omega) (by omega),Int.toNat_natCast,Nat.zero_add]
end
abbrev EV:=SM.Ent×Value
def entP(x:EV):List Value:=[S x.1.name,.int .i64 x.1.mode,.bool x.1.dir,x.2,.int .i64 x.1.time]
theorem zs2(x:EV):(entP x).length=5:=rfl
def EntS(w:World)(v:Value)(l:List EV):Prop:=(∀x∈l,BS w x.2 x.1.data)/\((l=[]/\∃a cap,v=.slice a 0 cap)\/∃b o cap,v=sl b o l.length cap/\b<w.heap.size/\∀i(h:i<l.length),zaY (bk w b) (o+i*5) 5=some (entP l[i]))
theorem EntS.old{w w':World}{v:Value}{l:List EV}(h:EntS w v l)(hb:Below w.heap.size w w'):EntS w' v l:=by
 refine⟨λx hx=>zct (h.1 x hx) hb (Nat.le_refl _),?_⟩;rcases h.2 with h|⟨b,o,cap,h1,h2,h3⟩
 ·exact .inl h
 ·exact .inr ⟨b,o,cap,h1,Nat.lt_of_lt_of_le h2 hb.size,λi g=>by rw[zaH hb h2];exact h3 i g⟩
theorem EntS.slice{w:World}{v:Value}{l:List EV}(h:EntS w v l):∃a cap,v=.slice a l.length cap:=by
 rcases h.2 with⟨h,a,cap,e⟩|⟨b,o,cap,e,_⟩
 ·exact⟨a,cap,by rw[e,h];rfl⟩
 ·exact⟨_,_,e⟩
theorem EntS.idx{w:World}{v:Value}{l:List EV}(h:EntS w v l){i:Nat}(hi:i<l.length):
  ∃b o,zaY (bk w b) o 5=some (entP l[i])/\b<w.heap.size/\∀L:Value->Prop,pu P (zaO T.aK v (.int .i64 i)) L=L (pt b o):=by
 rcases h.2 with⟨h,_⟩|⟨b,o,cap,rfl,hb,hr⟩
 ·rw[h]at hi;exact absurd hi (by simp)
 ·refine⟨b,o+i*5,hr i hi,hb,λL=>?_⟩;rw[zhn (size:=5) L U.aq (by kernel_rfl) (by omega) (by omega),Int.toNat_natCast]
theorem EntS.nil(w:World)(a:Option Addr)(c:Nat):EntS w (.slice a 0 c) []:=⟨λx hx=>(by cases hx),.inl ⟨rfl,a,c,rfl⟩⟩
theorem BS_kp0{w w':World}{S:Nat->Prop}{v:Value}{l:List UInt8}(h:BS w v l)(k:Kp w w' S)(hS:l=[]\/∀b,v.ownBlock=some b->¬S b):BS w' v l:=by
 rcases hS with e|hS
 ·subst e;obtain⟨a,cap,rfl⟩:=zaK h;exact .inl ⟨rfl,_,_,rfl⟩
 ·exact zkV h k hS
theorem BS_lt0{w:World}{v:Value}{l:List UInt8}(h:BS w v l):l=[]\/∀k,v.ownBlock=some k->k<w.heap.size:=by
 rcases h with h|⟨b,o,cap,rfl,h2,h3,h4⟩
 ·exact .inl h.1
 ·refine .inr λk hk=>?_;injection hk with hk;rw[<-hk];exact h4
structure EntO(w:World)(B:Nat)(v:Value)(l:List EV):Prop where
 o:w.ownsRow B T.aE 5 v l.length ((l.map entP).flatten)
 bs:∀x∈l,BS w x.2 x.1.data
 dj:∀x∈l,x.1.data=[]\/∀b,x.2.ownBlock=some b->v.ownBlock≠some b
theorem EntO.nil(w:World)(B:Nat):EntO w B (.slice none 0 0) []:=⟨zfx _ _ _ _,λx hx=>(by cases hx),λx hx=>(by cases hx)⟩
theorem EntO.S{w:World}{B:Nat}{v:Value}{l:List EV}(h:EntO w B v l):EntS w v l:=by
 refine⟨h.bs,?_⟩;by_cases hn0:l.length=0
 ·obtain⟨a,cap,e⟩:=zal h.o;exact .inl ⟨List.length_eq_zero_iff.1 hn0,a,cap,by rw[e,hn0]⟩
 ·obtain⟨b,cap,cur,rfl,h1,h2,h3,h4,h5,h6⟩:=zda h.o hn0;refine .inr ⟨b,0,cap,rfl,h3,λi hi=>?_⟩;rw[h4,zm1 _ _ _ _ (by omega),Nat.zero_add,<-zrH entP 5 l i hi zs2,<-h6,List.drop_take,List.take_take,Nat.min_eq_left (by omega)]
theorem EntO.old{w w':World}{B:Nat}{v:Value}{l:List EV}(h:EntO w B v l)(k:Below w.heap.size w w'):EntO w' B v l:=⟨zbe h.o k (Nat.le_refl _),λx hx=>zct (h.bs x hx) k (Nat.le_refl _),h.dj⟩
section
variable{w:World}{L:Value->World->Prop}{B:Nat}
theorem ztw{v x:Value}{l:List EV}{e:SM.Ent}(h:EntO w B v l)(hn:l.length<=1000000)(hB:B<=w.heap.size)(hx:BS w x e.data)(hd:e.data=[]\/∀b,x.ownBlock=some b->v.ownBlock≠some b)
  (hk:∀v' w',EntO w' B v' (l++[(e,x)])->Kp w w' (λk=>v.ownBlock=some k)->(∀k,v'.ownBlock=some k->v.ownBlock=some k\/w.heap.size<=k)->Below B w w'->L v' w'):
  st P (zam T.aK 1 #[(0,AG (entP (e,x)))]) w λt w1=>st P (zac .append #[T.aK,T.aK] T.aK #[false,false] #[v,t]) w1 L:=by
 obtain⟨a,c,rfl⟩:=zaK hx;have one:∀u∈entP (e,.slice a e.data.length c),u.oneCell'=true:=λu hu=>by simp only[entP,List.mem_cons,List.not_mem_nil,or_false]at hu;rcases hu with rfl|rfl|rfl|rfl|rfl<;>rfl
 rw[zbH (size:=5) (z:=AG (entP (⟨[],0,false,[],0⟩,.slice none 0 0))) _ _ U.aq (by kernel_rfl) (by omega) (by omega) (l:=entP (e,.slice a e.data.length c)) rfl];have B1:Below w.heap.size w (w.alloc (CB (entP (e,.slice a e.data.length c)) T.aE)):=by repeat (first|exact Below.refl _ _|assumption|refine zag ?_ (by first|omega|(simp only[go_sem]<;>omega)) _|refine Below.alloc ?_ (by first|omega|(simp only[go_sem]<;>omega)) _|refine Below.drew ?_)
 have r1:bk (w.alloc (CB (entP (e,.slice a e.data.length c)) T.aE)) w.heap.size=some (CB (entP (e,.slice a e.data.length c)) T.aE):=zah _ _ _ rfl;have z1:(w.alloc (CB (entP (e,.slice a e.data.length c)) T.aE)).heap.size=w.heap.size+1:=by simp only[go_sem]
 generalize w.alloc (CB (entP (e,.slice a e.data.length c)) T.aE)=w1 at*;have h1:=h.old B1;have lo:=zeO h1.o;refine zbO (size:=5) (bytes:=64) (z:=AG (entP (⟨[],0,false,[],0⟩,.slice none 0 0))) (m:=1) (news:=entP (e,.slice a e.data.length c)) U.aq (by kernel_rfl) rfl (by omega) h1.o (.inl ⟨_,_,_,rfl,by rw[r1];rfl⟩) rfl one (by simp only[maxLen];omega) (by omega) (by omega) λsv' w2 o2 g2 l2=>?_;have K2:=Kp.of_grown g2;have z2:=K2.size;have K12:Kp w w2 (λk=>v.ownBlock=some k):=(Kp.of_below B1 _).trans K2 λ_ _ h=>h;have hv:∀k,sv'.ownBlock=some k->v.ownBlock=some k\/w.heap.size<=k:=λk hk=>by
  rcases l2 with h|h
  ·exact .inl (by rw[<-h];exact hk)
  ·rw[hk]at h;injection h with h;exact .inr (by omega)
 have dj':∀y∈l++[(e,(.slice a e.data.length c:Value))],y.1.data=[]\/∀b,y.2.ownBlock=some b->v.ownBlock≠some b:=λy hy=>by
  rcases List.mem_append.1 hy with q|q
  ·exact h.dj y q
  ·simp at q;rw[q];exact hd
 have bs':∀y∈l++[(e,(.slice a e.data.length c:Value))],BS w y.2 y.1.data:=λy hy=>by
  rcases List.mem_append.1 hy with q|q
  ·exact h.bs y q
  ·simp at q;rw[q];exact hx
 refine hk sv' w2 ⟨?_,λy hy=>BS_kp0 (bs' y hy) K12 ((dj' y hy).imp id λd b hb e=>d b hb e),λy hy=>?_⟩ K12 hv ((B1.mono hB).trans (K2.below (λk hk e=>by have:=(lo k e).1;omega) (by omega)))
 ·rw[List.map_append,List.flatten_append];simpa using o2
 ·rcases dj' y hy with q|q
  ·exact .inl q
  ·rcases BS_lt0 (bs' y hy)with q2|q2
   ·exact .inl q2
   ·refine .inr λb hb e=>?_;rcases hv b e with z|z
    ·exact q b hb z
    ·have:=q2 b hb;omega
end
end Go.Proofs.YtdljebgllipdjaaGreatDoor.X
end
section
namespace Go.Proofs.YtdljebgllipdjaaGreatDoor.X
open Go Go.X Go.Proofs Go.RowKit Go.X.PM Go.Lib
section
variable{w w' w0:World}{F0 F:Fp}{K:Value->World->Prop}{B p hb mb:Nat}{se:Nat->Nat×Nat}{s:PM.St}{rep:Nat->Rep}{ps:List Nat}
 {m m':SM.Mem} {hp hp':Int->Nat} {k:Nat}
theorem zty{C n size:Nat}{e:TypeId}{v:Value}{xs:List Value}(h:w.ownsRow C e size v n xs)(hB:B<=C):w.ownsRow B e size v n xs:=⟨h.1,h.2.imp id λ⟨g,cap,cur,h1,h2,h3⟩=>⟨g,cap,cur,h1,Nat.le_trans hB h2,h3⟩⟩
theorem zrt{fi:Nat}{i:SM.Info}(h:InfoAt w fi i)(hk:K (.bool i.dir) w):Cl P Fn.ao #[pt fi 0] w K:=by obtain⟨d,nm,a,n,c,md,dir,mode,mt,uid,gid,h1,h2,h3,h4,h5,rfl⟩:=h;apply ze8;unfold zcT;simp(disch:=first|omega|(simp(disch:=first|omega|fail)only[go_sem,h1,h2]<;>omega)|fail)only[go_sem,h1,h2];exact hk
theorem zqi{fi:Nat}{i:SM.Info}(h:InfoAt w fi i)(hk:K (.int .i64 i.time) w):Cl P Fn.aA #[pt fi 0] w K:=by obtain⟨d,nm,a,n,c,md,dir,mode,mt,uid,gid,h1,h2,h3,h4,h5,rfl⟩:=h;apply zed;unfold zcn;simp(disch:=first|omega|(simp(disch:=first|omega|fail)only[go_sem,h1,h2]<;>omega)|fail)only[go_sem,h1,h2];exact hk
theorem znr{q:Str}(h:PF w B p s mb rep)(hk:K (optP (s.g q)) w):Cl P Fn.aT #[pt p 0,S q] w K:=by apply zgO;unfold zc3;rw[C.ab];refine zaB h ?_;rw[h.look1];exact hk
theorem zmt{d:Nat}{n:PM.Nd}(h:PF w B p s mb rep)(hd:s.nd d=some n)(hk:K (rep d).v w):Cl P Fn.aU #[pt d 0] w K:=by apply zgV;unfold zdt;obtain⟨u,g,hb⟩:=(h.node d n hd).bd;obtain⟨a,c,ev⟩:=zal (h.node d n hd).own;simp(disch:=first|omega|(simp(disch:=first|omega|fail)only[go_sem,hb]<;>omega)|fail)only[go_sem,hb];rw[ev]at hk⊢;exact hk
theorem zmj(h:FsT w F w B p m hp se)(hN:m.names.length<=900000)
  (hk:∀w' v s mb rep ps,PT w F w' B p s mb rep se->PM.Rel s m ps hp [] none->w'.ownsRow w.heap.size T.ah 1 v m.names.length (m.names.map S)->Kp w w' F.own->(∀b,v.ownBlock=some b->¬Own p mb s rep b)->K v w'):Cl P Fn.aL #[pt p 0] w K:=by
 apply zf9;unfold zcM;rw[C.ab];refine zcd h λw1 s mb rep ps h1 r1=>?_;obtain⟨M,c,m1,m2,m3⟩:=h1.pf.map;have wf:=r1.mi.wf;have key:∀q,(mget M q).isSome=true↔q∈m.names:=λq=>by rw[m3,r1.g];simp only[eg,Option.none_or,Option.isSome_map];exact(SM.zcG wf q).symm
 have hMl:M.length<=m.names.length:=by
  have:=zdN (M.map (·.1)) m.names m2.keys λq hq=>by
   refine(key q).1 ?_;have:=zbn M q;cases e:mget M q with
   |none=>exact absurd hq (this.1 e)
   |some v=>rfl
  rw[List.length_map]at this;omega
 rw[C.aJ];refine zie m1 m2 (by omega) λw2 v ys o2 srt ln mem B2=>?_;have:ys=m.names:=zfo (lt:=λa b:Str=>a<b) SM.za9 (λ_ _ _=>SM.zot) ys m.names srt wf.srt λa=>(mem a).trans (key a);subst this;exact hk _ _ _ _ _ _ (h1.old B2) r1 (zty o2 h1.tr.kp.size) (h1.old B2).tr.kp λb hb ho=>by have:=(h1.pf.lt b ho).2;have:=(zaV o2 b hb).1;omega
theorem zo7(h:FsT w F w B p m hp se)(inv:Inv k m)(hk70:k<=70)(hB:∀b,F.own b->b<w.heap.size)
  (hk:∀w' v vs,FsI w F w' B p m hp se->EntO w' w.heap.size v vs->vs.map (·.1)=m.tree->Kp w w' F.own->K v w'):Cl P Fn.di #[pt p 0] w K:=by
 apply znu;unfold zj9;have hnn:=inv.nn;have wf:=h.mi.wf;refine zaR ?_;rw[C.aI];refine zmj h (by omega) λw1 nv s mb rep ps h1 r1 o1 k1 nown=>?_;obtain⟨na,nc,env⟩:=zal o1;rw[env,V.ae,<-env];clear env;have z1:=k1.size;refine zay (λt w'=>∃ov vs,∃i:Nat,t=[ov,.int .i64 i]/\i<=m.names.length/\PT w F w' B p s mb rep se/\w'.ownsRow w.heap.size T.ah 1 nv m.names.length (m.names.map S)/\EntO w' w.heap.size ov vs/\vs.map (·.1)=m.tree.take i/\(∀b,ov.ownBlock=some b->w1.heap.size<=b)/\Below w1.heap.size w1 w')
  (λt _=>m.names.length - (RowKit.intOf (gs t 1)).toNat) ⟨.slice none 0 0,[],0,rfl,Nat.zero_le _,h1,o1,EntO.nil _ _,by simp,λb hb=>(by cases hb),Below.refl _ _⟩ ?_
 rintro t e w3 ⟨ov,vs,i,rfl,hi,h3,o3,E3,ev3,lo3,B3⟩;rw[gs1,gs0,oLss];by_cases g:(i:Int)<m.names.length
 ·have hix:i<m.names.length:=by omega
  simp(disch:=first|omega|(simp(disch:=first|omega|fail)only[go_sem]<;>omega)|fail)only[go_sem];refine zaR ?_;obtain⟨gb,nb,nlt,ix,ld⟩:=zhw o3 rfl hix;obtain⟨x,hx,tx⟩:=SM.ztd wf hix;rw[ix,ld w3 rfl];obtain⟨kk,g1,g2⟩:=Rel.node r1 hx rfl;have nd:=inv.node (wf.find_lt hx);intro u;refine znr h3.pf ?_;rw[g1];refine ziQ h3 g2 nd.2.2 (by have:=nd.1;simp only;omega) λfi w4 h4 B4 f1 f2 hf=>?_;refine zmP hf ?_;simp only
  rw[V.aj,zaD (by omega) (by omega)];refine zrt hf ?_;refine zmt h4.pf g2 ?_;have hbs:=zly (h4.pf.node _ _ g2).own;have z4:=B4.size;refine zh9 U.ab (by kernel_rfl) (zfx w4 w4.heap.size T.aJ 1) hbs (by simp only;omega) (Nat.le_refl _) λdv w5 o5 g5 l5=>?_;have B5:Below w4.heap.size w4 w5:=(Kp.of_grown g5).below (λk _ e=>by cases e) (Nat.le_refl _);refine zqi (hf.old B5) ?_;have z5:=B5.size;have z3:=B3.size;have dn:∀b,dv.ownBlock=some b->w4.heap.size<=b:=λb hb=>(zaV o5 b hb).1;have hbv:BS w5 dv (m.node x).data:=zly (by simpa using o5);have lo:=zeO E3.o;have B35:Below w3.heap.size w3 w5:=B4.trans (B5.mono z4);have E5:=E3.old B35;obtain⟨da,dc,edv⟩:=zaK hbv;rw[edv];simp(disch:=first|omega|(simp(disch:=first|omega|fail)only[go_sem]<;>omega)|fail)only[go_sem];rw[<-edv];refine ztw (e:=m.ent m.names[i] x) (x:=dv) E5 (by have:=congrArg List.length ev3;rw[List.length_map,List.length_take]at this;omega) (by omega) hbv (.inr λb hb e=>by have:=dn b hb;have:=(lo b e).2;omega) λov' w6 E6 k6 l6 B6=>?_;have H5:=h4.old B5;have z6:=k6.size;have lov:∀b,ov.ownBlock=some b->w1.heap.size<=b/\b<w3.heap.size:=λb hb=>⟨lo3 b hb,(lo b hb).2⟩;have PT6:PT w F w6 B p s mb rep se:=H5.other k6 (λb ho e=>by have:=(h1.pf.lt b ho).2;have:=(lov b e).1;omega) λb e=>by have:=h1.pf.le;have:=(lov b e).1;omega
  have B16:Below w1.heap.size w1 w6:=(B3.trans (B35.mono z3)).trans (k6.below (λb hb e=>by have:=(lov b e).1;omega) (by omega));refine⟨⟨ov',_,i+1,rfl,by omega,PT6,zbR (zbe o3 B35 (Nat.le_refl _)) k6 (λb hb e=>?_),E6,?_,λb hb=>?_,B16⟩,by simp only[gs1,RowKit.intOf];omega⟩
  ·have:=(zaV o1 b hb).2;have:=(lov b e).1;omega
  ·rw[List.map_append,ev3,List.take_succ_eq_append_getElem (by rw[SM.zhC wf];exact hix),tx];rfl
  ·rcases l6 b hb with e|e
   ·exact lo3 b e
   ·omega
 ·have:i=m.names.length:=by omega
  subst this;simp(disch:=first|omega|(simp(disch:=first|omega|fail)only[go_sem]<;>omega)|fail)only[go_sem];refine zaR ?_;intro u;rw[List.take_of_length_le (by rw[SM.zhC wf];exact Nat.le_refl _)]at ev3;exact hk _ _ _ ⟨s,mb,rep,ps,h3,r1⟩ E3 ev3 h3.tr.kp
theorem zog{qs:List SM.Stp}{vs:List Value}{tv:Value}(hq:StepsAt w tv qs vs)(hql:qs.length<=60)(sn:Sn w w.heap.size se)(hsp:SM.zcU SM0 0 qs=true)
  (hk:∀w' v es,EntO w' w.heap.size v es->es.map (·.1)=(SM.runM SM0 0 qs).1.tree->Below w.heap.size w w'->K v w'):Cl P Fn.df #[tv] w K:=by
 apply zmv;unfold zjo;rw[C.bV];refine zo8 hq hql sn hsp λw1 p hb hp F av cs J G inv=>?_;simp(disch:=first|omega|(simp(disch:=first|omega|fail)only[go_sem]<;>omega)|fail)only[go_sem];have zz:=J.bel.size;refine zo7 J.fs inv (by omega) (λb hb=>(J.own b hb).2) λw2 v es h2 E2 e2 k2=>?_;refine hk w2 v es ⟨zty E2.o zz,E2.bs,E2.dj⟩ e2 (J.bel.trans (k2.below (λb hb e=>by have:=(J.own b e).1;omega) zz))
end
end Go.Proofs.YtdljebgllipdjaaGreatDoor.X
end
section
namespace Go.Proofs.YtdljebgllipdjaaGreatDoor.X
open Go Go.X Go.Proofs Go.RowKit
theorem zrr{m:SM.Mem}{s:SM.Stp}(sp:m.speaks s=true):s.name.length<=400/\s.other.length<=400/\s.data.length<=4096:=by
 unfold SM.Mem.speaks at sp;by_cases c0:400<s.name.length\/400<s.other.length\/4096<s.data.length
 ·rw[if_pos c0]at sp;cases sp
 ·omega
theorem zrq{m:SM.Mem}{s:SM.Stp}(sp:m.speaks s=true)(ho:s.op<0\/11<s.op){hd:SM.Hnd}(hg:SM.hget m.hs s.h=some hd)(h18:s.op<18):(-1099511627776<=s.off/\s.off<=1099511627776)/\s.n<=4096:=by
 have l:=zrr sp;unfold SM.Mem.speaks at sp;rw[if_neg (by omega),if_neg (by omega),if_neg (by omega),hg]at sp;simp only at sp;unfold SM.Mem.speaksFile at sp;simp only at sp;rw[if_neg (by omega),if_neg (by omega)]at sp;by_cases c:((m.node hd.node).dir||decide (4096<s.data.length)||decide (s.n<0)||decide (4096<s.n)||decide (1099511627776<s.off)||decide (s.off< -1099511627776))=true
 ·rw[if_pos c]at sp;cases sp
 ·simp only[Bool.or_eq_true,decide_eq_true_eq]at c;omega
theorem sp_ren{m:SM.Mem}{s:SM.Stp}(sp:m.speaks s=true)(ho:s.op=7):norm s.name=norm s.other\/norm s.name≠[47]:=by
 have l:=zrr sp;unfold SM.Mem.speaks at sp;rw[if_neg (by omega),if_neg (by omega),if_pos (by omega)]at sp;unfold SM.Mem.speaksNames at sp;simp only at sp;cases hn:SM.zbE s.name with
 |false=>rw[if_pos hn]at sp;cases sp
 |true=>
  rw[if_neg (by rw[hn];simp),if_neg (by omega),if_neg (by omega),if_neg (by omega),if_pos ho]at sp;simp only[Bool.and_eq_true,Bool.or_eq_true,decide_eq_true_eq,Bool.not_eq_true']at sp;rcases sp.2 with e|e
  ·exact .inl e
  ·exact .inr e.1.1.1.1
section
variable{w w':World}{K:Value->World->Prop}{B p k:Nat}{m:SM.Mem}{F:Fp}{s:SM.Stp}{v:Value}
theorem zor(h:MemS w B p m F)(hB:B<=w.heap.size)(hv:BS w v s.data)(inv:Inv k m)(hk:k<=70)(sp:m.speaks s=true)(i:Int)(hK:zcs w B p F (m.doS i s) K):Cl P Fn.bz #[pt p 0,.int .i64 i,AG (zba s v)] w K:=by
 obtain⟨l1,l2,l3⟩:=zrr sp;by_cases o1:0<=s.op/\s.op<=2
 ·exact zsB h hB (zaK hv) o1 l1 inv.rt (inv.mb (by omega)) (λn hn=>by have:=(inv.dl n hn).2;omega) i hK
 by_cases o2:3<=s.op/\s.op<=11
 ·exact zsD h (zaK hv) o2 l1 l2 inv.rt inv.wf (inv.mb (by omega)) (λe=>sp_ren sp e) i hK
 ·refine zs3 h hv (inv.mb (by omega)) inv.hb (by omega) (λhd hg=>?_) i hK;exact inv.fb (by omega) (λe=>(zrq sp (by omega) hg e).1) (λe=>(zrq sp (by omega) hg e).2) l3 hd hg
theorem zgn:∀(qs:List SM.Stp)(m:SM.Mem)(i:Int),(∃q∈qs,400<q.name.length\/400<q.other.length\/4096<q.data.length)->SM.zcU m i qs=false
 |[],_,_,⟨q,hq,_⟩=>by cases hq
 |q::qs,m,i,⟨y,hy,hl⟩=>by
  simp only[SM.zcU];rcases List.mem_cons.1 hy with e|e
  ·subst e;have:m.speaks y=false:=by unfold SM.Mem.speaks;rw[if_pos hl]
   rw[this];rfl
  ·rw[zgn qs _ _ ⟨y,e,hl⟩,Bool.and_false]
theorem stepW(w3:World)(c:List Value):∃w4,w4=setb (w3.alloc (CB [.int .i64 0,S [],S [],.int .i64 0,.int .i64 0,.int .i64 0,.slice none 0 0,.int .i64 0,.int .i64 0,.int .i64 0] T.ae)) w3.heap.size (CB c T.ae)/\Below w3.heap.size w3 w4/\bk w4 w3.heap.size=some (CB c T.ae)/\w4.heap.size=w3.heap.size+1:=by
 refine⟨_,rfl,?_,?_,?_⟩
 ·repeat (first|exact Below.refl _ _|assumption|refine zag ?_ (by first|omega|(simp only[go_sem]<;>omega)) _|refine Below.alloc ?_ (by first|omega|(simp only[go_sem]<;>omega)) _|refine Below.drew ?_)
 ·exact zar _ _ _ _ rfl (by simp only[go_sem];omega)
 ·simp only[go_sem]
theorem zoR{qs:List SM.Stp}{vs:List Value}{tv:Value}(hq:StepsAt w tv qs vs)(hql:qs.length<=70)(hk:LkK w (SM.zcU SM0 0 qs) K):Cl P Fn.dp #[tv] w K:=by
 apply znp;unfold zj6;obtain⟨qa,qc,eq⟩:=hq.slice;refine zaa (λt w'=>Below w.heap.size w w'/\∀q∈qs,¬(400<q.name.length\/400<q.other.length\/4096<q.data.length)) ?_ ?_;rotate_left
 ·rw[eq,V.af,<-eq];clear eq;refine zay (λt w'=>∃i:Nat,t=[.int .i64 i]/\i<=qs.length/\Below w.heap.size w w'/\∀q∈qs.take i,¬(400<q.name.length\/400<q.other.length\/4096<q.data.length)) (λt _=>qs.length - (RowKit.intOf (gs t 0)).toNat) ⟨0,rfl,Nat.zero_le _,Below.refl _ _,by simp⟩ ?_;rintro t e w3 ⟨i,rfl,hi,B3,ok3⟩;rw[gs0,oLss];by_cases g:(i:Int)<qs.length
  ·have hix:i<qs.length:=by omega
   have hiv:i<vs.length:=by rw[hq.1];exact hix
   simp(disch:=first|omega|(simp only[sZb,sZa,sZd]<;>omega)|(simp(disch:=first|omega|(simp only[sZb,sZa,sZd]<;>omega)|fail)only[go_sem];done)|fail)only[go_sem,zaE,zaI,zaC,zaG,zaF,w_u8,zaD,Int.reduceToNat,Int.reducePow,Nat.reducePow];refine zaR ?_;intro u;unfold ziC;rw[gs0];have hq4:=hq.old B3;obtain⟨b,o,hrow,hbl,ix⟩:=hq4.idx hix hiv;have hqi:=hq4.2.1 i hix hiv;have ok4:(¬(400<qs[i].name.length\/400<qs[i].other.length\/4096<qs[i].data.length))->∀q∈qs.take (i+1),¬(400<q.name.length\/400<q.other.length\/4096<q.data.length):=λh q hq=>by
    rw[List.take_succ_eq_append_getElem hix]at hq;rcases List.mem_append.1 hq with e|e
    ·exact ok3 q e
    ·simp at e;rw[e];exact h
   have hin:qs[i]∈qs:=List.getElem_mem hix;generalize qs[i]=q at*;generalize vs[i]=x at*;obtain⟨xa,xc,rfl⟩:=zaK hqi;refine zaR ?_;rw[ix];simp(disch:=first|omega|(simp only[sZb,sZa,sZd]<;>omega)|(simp(disch:=first|omega|(simp only[sZb,sZa,sZd]<;>omega)|fail)only[go_sem,hrow];done)|fail)only[go_sem,zaE,zaI,zaC,zaG,zaF,w_u8,zaD,Int.reduceToNat,Int.reducePow,Nat.reducePow,hrow];obtain⟨w4,e4,B4,b4,z4⟩:=stepW w3 (zba q (.slice xa q.data.length xc));rw[<-e4];clear e4;have B4':Below w.heap.size w w4:=B3.trans (B4.mono B3.size);by_cases c1:(400:Int)<q.name.length
   ·simp(disch:=first|omega|(simp only[sZb,sZa,sZd]<;>omega)|(simp(disch:=first|omega|(simp only[sZb,sZa,sZd]<;>omega)|fail)only[go_sem];done)|fail)only[go_sem,zaE,zaI,zaC,zaG,zaF,w_u8,zaD,Int.reduceToNat,Int.reducePow,Nat.reducePow];have:=hk w4 B4';rw[zgn qs SM0 0 ⟨q,hin,by omega⟩]at this;exact this
   by_cases c2:(400:Int)<q.other.length
   ·simp(disch:=first|omega|(simp only[sZb,sZa,sZd]<;>omega)|(simp(disch:=first|omega|(simp only[sZb,sZa,sZd]<;>omega)|fail)only[go_sem,b4];done)|fail)only[go_sem,zaE,zaI,zaC,zaG,zaF,w_u8,zaD,Int.reduceToNat,Int.reducePow,Nat.reducePow,b4];have:=hk w4 B4';rw[zgn qs SM0 0 ⟨q,hin,by omega⟩]at this;exact this
   by_cases c3:(4096:Int)<q.data.length
   ·simp(disch:=first|omega|(simp only[sZb,sZa,sZd]<;>omega)|(simp(disch:=first|omega|(simp only[sZb,sZa,sZd]<;>omega)|fail)only[go_sem,b4];done)|fail)only[go_sem,zaE,zaI,zaC,zaG,zaF,w_u8,zaD,Int.reduceToNat,Int.reducePow,Nat.reducePow,b4];have:=hk w4 B4';rw[zgn qs SM0 0 ⟨q,hin,by omega⟩]at this;exact this
   simp(disch:=first|omega|(simp only[sZb,sZa,sZd]<;>omega)|(simp(disch:=first|omega|(simp only[sZb,sZa,sZd]<;>omega)|fail)only[go_sem,b4];done)|fail)only[go_sem,zaE,zaI,zaC,zaG,zaF,w_u8,zaD,Int.reduceToNat,Int.reducePow,Nat.reducePow,b4];intro u;unfold zas;rw[gs0];simp(disch:=first|omega|(simp only[sZb,sZa,sZd]<;>omega)|(simp(disch:=first|omega|(simp only[sZb,sZa,sZd]<;>omega)|fail)only[go_sem];done)|fail)only[go_sem,zaE,zaI,zaC,zaG,zaF,w_u8,zaD,Int.reduceToNat,Int.reducePow,Nat.reducePow];exact⟨⟨i+1,rfl,by omega,B4',ok4 (by omega)⟩,by simp only[gs0,RowKit.intOf];omega⟩
  ·have:i=qs.length:=by omega
   subst this;simp(disch:=first|omega|(simp only[sZb,sZa,sZd]<;>omega)|(simp(disch:=first|omega|(simp only[sZb,sZa,sZd]<;>omega)|fail)only[go_sem];done)|fail)only[go_sem,zaE,zaI,zaC,zaG,zaF,w_u8,zaD,Int.reduceToNat,Int.reducePow,Nat.reducePow];refine zaR ?_;rw[List.take_length]at ok3;exact⟨B3,ok3⟩
 ·rintro t e w1 ⟨B1,ok⟩;unfold ziG;rw[C.aW];have z1:=B1.size;refine zmc (B:=w.heap.size) z1 λw2 p F h2 u2 B2=>?_;have B12:=B1.trans (B2.mono z1);refine zaR ?_;rw[eq,V.af,<-eq];clear eq;refine zay (λt w'=>∃m F,∃i:Nat,t=[.int .i64 i]/\i<=qs.length/\MemS w' w.heap.size p m F/\Inv i m/\Below w.heap.size w w'/\SM.zcU m i (qs.drop i)=SM.zcU SM0 0 qs) (λt _=>qs.length - (RowKit.intOf (gs t 0)).toNat) ⟨SM0,F,0,rfl,Nat.zero_le _,h2,Inv.start,B12,by simp⟩ ?_;rintro t e w3 ⟨m,F3,i,rfl,hi,h3,inv,B3,hs3⟩;rw[gs0,oLss];by_cases g:(i:Int)<qs.length
  ·have hix:i<qs.length:=by omega
   have hiv:i<vs.length:=by rw[hq.1];exact hix
   simp(disch:=first|omega|(simp only[sZb,sZa,sZd]<;>omega)|(simp(disch:=first|omega|(simp only[sZb,sZa,sZd]<;>omega)|fail)only[go_sem];done)|fail)only[go_sem,zaE,zaI,zaC,zaG,zaF,w_u8,zaD,Int.reduceToNat,Int.reducePow,Nat.reducePow];refine zaR ?_;intro u;unfold ziw;rw[gs0];rw[List.drop_eq_getElem_cons hix]at hs3;simp only[SM.zcU]at hs3;have hq4:=hq.old B3;obtain⟨b,o,hrow,hbl,ix⟩:=hq4.idx hix hiv;have hqi:=hq4.2.1 i hix hiv;generalize qs[i]=q at*;generalize vs[i]=x at*;have one:=zem hqi;refine zaR ?_;rw[ix];simp(disch:=first|omega|(simp only[sZb,sZa,sZd]<;>omega)|(simp(disch:=first|omega|(simp only[sZb,sZa,sZd]<;>omega)|fail)only[go_sem,hrow,one];done)|fail)only[go_sem,zaE,zaI,zaC,zaG,zaF,w_u8,zaD,Int.reduceToNat,Int.reducePow,Nat.reducePow,hrow,one];obtain⟨w4,e4,B4,b4,z4⟩:=stepW w3 (zba q x);rw[<-e4];clear e4;have z3:=B3.size;have B4':Below w.heap.size w w4:=B3.trans (B4.mono z3);have h4:=h3.old B4;have hx4:=zct hqi B4 (Nat.le_refl _);refine zaR ?_;refine zo1 h4 (zaK hx4) (inv.mb (by omega)) inv.hb λw5 B5=>?_;have h5:=h4.old B5;have z5:=B5.size;have B5':Below w.heap.size w w5:=B4'.trans (B5.mono (by omega));have b5:=(zaH B5 (zai b4)).trans b4;have hx5:=zct hx4 B5 (Nat.le_refl _);cases hs:m.speaks q with
   |false=>rw[hs,Bool.false_and]at hs3;simp(disch:=first|omega|(simp only[sZb,sZa,sZd]<;>omega)|(simp(disch:=first|omega|(simp only[sZb,sZa,sZd]<;>omega)|fail)only[go_sem];done)|fail)only[go_sem,zaE,zaI,zaC,zaG,zaF,w_u8,zaD,Int.reduceToNat,Int.reducePow,Nat.reducePow];have:=hk w5 B5';rw[<-hs3]at this;exact this
   |true=>rw[hs,Bool.true_and]at hs3;simp(disch:=first|omega|(simp only[sZb,sZa,sZd]<;>omega)|(simp(disch:=first|omega|(simp only[sZb,sZa,sZd]<;>omega)|fail)only[go_sem];done)|fail)only[go_sem,zaE,zaI,zaC,zaG,zaF,w_u8,zaD,Int.reduceToNat,Int.reducePow,Nat.reducePow];intro u;unfold zis;rw[gs0];simp(disch:=first|omega|(simp only[sZb,sZa,sZd]<;>omega)|(simp(disch:=first|omega|(simp only[sZb,sZa,sZd]<;>omega)|fail)only[go_sem,b5,one];done)|fail)only[go_sem,zaE,zaI,zaC,zaG,zaF,w_u8,zaD,Int.reduceToNat,Int.reducePow,Nat.reducePow,b5,one];refine zor h5 (by omega) hx5 inv (by omega) hs i λw6 F6 c h6 t6 a6=>?_;intro u;unfold zas;rw[gs0];simp(disch:=first|omega|(simp only[sZb,sZa,sZd]<;>omega)|(simp(disch:=first|omega|(simp only[sZb,sZa,sZd]<;>omega)|fail)only[go_sem];done)|fail)only[go_sem,zaE,zaI,zaC,zaG,zaF,w_u8,zaD,Int.reduceToNat,Int.reducePow,Nat.reducePow];exact⟨⟨_,F6,i+1,rfl,by omega,h6,inv.step (by omega) hs i,B5'.trans (h5.below t6),by exact_mod_cast hs3⟩,by simp only[gs0,RowKit.intOf];omega⟩
  ·have:i=qs.length:=by omega
   subst this;simp(disch:=first|omega|(simp only[sZb,sZa,sZd]<;>omega)|(simp(disch:=first|omega|(simp only[sZb,sZa,sZd]<;>omega)|fail)only[go_sem];done)|fail)only[go_sem,zaE,zaI,zaC,zaG,zaF,w_u8,zaD,Int.reduceToNat,Int.reducePow,Nat.reducePow];refine zaR ?_;intro u;unfold zaU;rw[List.drop_length]at hs3;have:=hk w3 B3;rw[<-hs3]at this;exact this
theorem zl6{qs:List SM.Stp}{vs:List Value}{tv:Value}(hq:StepsAt w tv qs vs)(hk:LkK w (decide (qs.length<=60)&&SM.zcU SM0 0 qs) K):Cl P Fn.dq #[tv] w K:=by
 apply zm9;unfold zj7;obtain⟨qa,qc,eq⟩:=hq.slice;rw[eq,V.af,<-eq];by_cases c:qs.length<=60
 ·have c':(qs.length:Int)<=60:=by omega
  simp(disch:=first|omega|(simp(disch:=first|omega|fail)only[go_sem]<;>omega)|fail)only[go_sem];refine zoR hq (by omega) λw1 B1=>?_;have:=hk w1 B1;rw[decide_eq_true c,Bool.true_and]at this;exact this
 ·have c':¬(qs.length:Int)<=60:=by omega
  simp(disch:=first|omega|(simp(disch:=first|omega|fail)only[go_sem]<;>omega)|fail)only[go_sem];have:=hk w (Below.refl _ _);rw[decide_eq_false c,Bool.false_and]at this;exact this
theorem zoZ{qs:List SM.Stp}{vs:List Value}{tv:Value}(hq:StepsAt w tv qs vs)(hql:qs.length<=60)(hsp:SM.zcU SM0 0 qs=true)
  (hk:∀w' p av cs F,MemS w' w.heap.size p (SM.runM SM0 0 qs).1 F->w'.ownsRow w.heap.size T.ab 6 av qs.length (List.flatten cs)->(∀b,av.ownBlock=some b->¬F.use b)->AnsAt w' w.heap.size (λb=>F.use b\/av.ownBlock=some b) (SM.runM SM0 0 qs).2 cs->Inv qs.length (SM.runM SM0 0 qs).1->Below w.heap.size w w'->(∀b,F.use b->w.heap.size<=b)->K (tup [av,pt p 0]) w'):Cl P Fn.dm #[tv] w K:=by
 apply znv;unfold zj4;obtain⟨qa,qc,eq⟩:=hq.slice;rw[C.aW];refine zmc (B:=w.heap.size) (Nat.le_refl _) λw1 p F1 h1 u1 B1=>?_;have z1:=B1.size;rw[zb4 (n:=6) _ _ U.am (by kernel_rfl)];obtain⟨W6,e6⟩:∃W6,W6=w1.alloc (CB [] T.ab):=⟨_,rfl⟩;have b56:Below w1.heap.size w1 W6:=by rw[e6];repeat (first|exact Below.refl _ _|assumption|refine zag ?_ (by first|omega|(simp only[go_sem]<;>omega)) _|refine Below.alloc ?_ (by first|omega|(simp only[go_sem]<;>omega)) _|refine Below.drew ?_)
 have r6:bk W6 w1.heap.size=some (CB [] T.ab):=by rw[e6];exact zah _ _ _ rfl
 have o6:W6.ownsRow w.heap.size T.ab 6 (sl w1.heap.size 0 0 0) 0 []:=zlE r6 rfl (by omega) (Nat.zero_le _);rw[<-e6];have z6:W6.heap.size=w1.heap.size+1:=by rw[e6];simp only[go_sem]
 have B6:Below w.heap.size w W6:=B1.trans (b56.mono (by omega));have h6:=h1.old b56;clear e6;refine zaR ?_;rw[eq,V.af,<-eq];clear eq;refine zay (λt w'=>∃av cs F m az,∃i:Nat,t=[av,.int .i64 i]/\i<=qs.length/\MemS w' w.heap.size p m F/\Inv i m/\(∀k,F.use k->w.heap.size<=k)/\Below w.heap.size w w'/\w'.ownsRow w.heap.size T.ab 6 av i (List.flatten cs)/\(∀k,av.ownBlock=some k->¬F.use k)/\az.length=i/\AnsAt w' w.heap.size (λk=>F.use k\/av.ownBlock=some k) az cs/\SM.zcU m i (qs.drop i)=true/\(SM.runM m i (qs.drop i)).1=(SM.runM SM0 0 qs).1/\az++(SM.runM m i (qs.drop i)).2=(SM.runM SM0 0 qs).2)
  (λt _=>qs.length - (RowKit.intOf (gs t 1)).toNat) ⟨_,[],F1,SM0,[],0,rfl,Nat.zero_le _,h6,Inv.start,u1,B6,o6,λk e h=>?_,rfl,⟨rfl,λi h1=>absurd h1 (by simp)⟩,by simpa using hsp,by simp,by simp⟩ ?_
 ·have e:w1.heap.size=k:=Option.some.inj e;have:=h1.lt k h;omega
 rintro t e w3 ⟨av,cs,F3,m,az,i,rfl,hi,h3,inv,hU3,B3,o3,hav,hal,hA,hs3,hr1,hr2⟩;rw[gs1,gs0,oLss];by_cases g:(i:Int)<qs.length
 ·have hix:i<qs.length:=by omega
  have hiv:i<vs.length:=by rw[hq.1];exact hix
  simp(disch:=first|omega|(simp only[sZb,sZa,sZd]<;>omega)|(simp(disch:=first|omega|(simp only[sZb,sZa,sZd]<;>omega)|fail)only[go_sem];done)|fail)only[go_sem,zaE,zaI,zaC,zaG,zaF,w_u8,zaD,Int.reduceToNat,Int.reducePow,Nat.reducePow];refine zaR ?_;intro u;rw[List.drop_eq_getElem_cons hix]at hs3 hr1 hr2;simp only[SM.zcU,SM.runM,Bool.and_eq_true]at hs3 hr1 hr2;obtain⟨okq,okr⟩:=hs3;have hq4:=hq.old B3;obtain⟨b,o,hrow,hbl,ix⟩:=hq4.idx hix hiv;have hqi:=hq4.2.1 i hix hiv;generalize qs[i]=q at*;generalize vs[i]=x at*;have one:=zem hqi;rw[ix];simp(disch:=first|omega|(simp only[sZb,sZa,sZd]<;>omega)|(simp(disch:=first|omega|(simp only[sZb,sZa,sZd]<;>omega)|fail)only[go_sem,hrow,one];done)|fail)only[go_sem,zaE,zaI,zaC,zaG,zaF,w_u8,zaD,Int.reduceToNat,Int.reducePow,Nat.reducePow,hrow,one];obtain⟨w4,e4,B4,b4,z4⟩:=stepW w3 (zba q x);rw[<-e4];clear e4;have z3:=B3.size;have B4':Below w.heap.size w w4:=B3.trans (B4.mono z3);have h4:=h3.old B4;have hx4:=zct hqi B4 (Nat.le_refl _);refine zor h4 (by omega) hx4 inv (by omega) okq i λw5 F5 c h5 t5 a5=>?_;have z5:=t5.kp.size;have lU3:=h3.lt;have oav:=zeO o3;have B5':Below w.heap.size w w5:=B4'.trans (h4.below t5);have own3:∀b,F3.own b->F3.use b:=h3.sub;have use5:∀b,b<w4.heap.size->F5.use b->F3.use b:=λb hb e=>(t5.st b hb).2 e;have o5:w5.ownsRow w.heap.size T.ab 6 av i (List.flatten cs):=zbx (zbe o3 B4 (Nat.le_refl _)) t5.kp λb hb e=>hav b hb (own3 b e);have A5:AnsAt w5 w.heap.size (λk=>F5.use k\/av.ownBlock=some k) az cs:=by
   have q1:AnsAt w4 w.heap.size (λk=>F3.use k\/F5.use k\/av.ownBlock=some k) az cs:=AnsAt.kp (AnsAt.to hA λb _ hl hn e=>by
    rcases e with e|e|e
    ·exact hn (.inl e)
    ·exact hn (.inl (use5 b (by omega) e))
    ·exact hn (.inr e)) (Kp.of_below B4 λb=>w3.heap.size<=b) λb _ h1 _ h2=>by omega
   exact AnsAt.to (AnsAt.kp q1 t5.kp λb _ _ hn e=>hn (.inl (own3 b e))) λb _ _ hn e=>hn (.inr e)
  obtain⟨cl,c1⟩:=zin a5;rw[zbH (size:=6) (z:=AG ansZ) _ _ U.am (by kernel_rfl) (by omega) (by omega) (l:=c) cl];obtain⟨w6,e6⟩:∃w6,w6=w5.alloc (CB c T.ab):=⟨_,rfl⟩;have B56:Below w5.heap.size w5 w6:=by rw[e6];repeat (first|exact Below.refl _ _|assumption|refine zag ?_ (by first|omega|(simp only[go_sem]<;>omega)) _|refine Below.alloc ?_ (by first|omega|(simp only[go_sem]<;>omega)) _|refine Below.drew ?_)
  have z6':w6.heap.size=w5.heap.size+1:=by rw[e6];simp only[go_sem]
  have r6':bk w6 w5.heap.size=some (CB c T.ab):=by rw[e6];exact zah _ _ _ rfl
  rw[<-e6];clear e6;have o6':=zbe o5 B56 (Nat.le_refl _);refine zbO (size:=6) (bytes:=96) (z:=AG ansZ) (news:=c) U.am (by kernel_rfl) rfl (by omega) o6' (.inl ⟨_,_,_,rfl,by rw[r6'];simp only[zaY];rw[if_pos (by simp)];simp⟩) cl c1 (by simp only[maxLen];omega) (by omega) (by omega) λav7 w7 o7 g7 l7=>?_;have K7:=Kp.of_grown g7;have z7:=K7.size;have hav7:∀k,av7.ownBlock=some k->av.ownBlock=some k\/w6.heap.size<=k:=λk hk=>by
   rcases l7 with h|h
   ·exact .inl (by rw[<-h];exact hk)
   ·rw[hk]at h;injection h with h;exact .inr (by omega)
  have lU5:=h5.lt;have nav:∀b,av.ownBlock=some b->¬F5.use b:=λb hb e=>hav b hb (use5 b (by have:=(oav b hb).2;omega) e);have h7:MemS w7 w.heap.size p (m.doS i q).1 F5:=(h5.old B56).frame K7 λb hb e=>nav b e hb;have B7:Below w.heap.size w w7:=(B5'.trans (B56.mono (by omega))).trans (K7.below (λb hb e=>by have:=(oav b e).1;omega) (by omega));refine⟨⟨av7,cs++[c],F5,(m.doS i q).1,az++[(m.doS i q).2],i+1,rfl,by omega,h7,inv.step (by omega) okq i,λb hb=>?_,B7,?_,λb hb e=>?_,by simp[hal],?_,by exact_mod_cast okr,by exact_mod_cast hr1,?_⟩,by simp only[gs1,RowKit.intOf];omega⟩
  ·by_cases e:b<w4.heap.size
   ·exact hU3 b (use5 b e hb)
   ·omega
  ·rw[List.flatten_append];simpa using o7
  ·rcases hav7 b hb with z|z
   ·exact nav b z e
   ·have:=lU5 b e;omega
  ·have weak:∀b,b<w6.heap.size->¬(F5.use b\/av.ownBlock=some b)->¬(F5.use b\/av7.ownBlock=some b):=λb hb hn e=>by
    rcases e with e|e
    ·exact hn (.inl e)
    ·rcases hav7 b e with z|z
     ·exact hn (.inr z)
     ·omega
   have a6:AnsN w5 w.heap.size (λk=>F5.use k\/av.ownBlock=some k) (m.doS i q).2 c:=by
    obtain⟨x1,x2,x3,q1,q2,q3,q4,q5⟩:=a5;refine⟨x1,x2,x3,q1,q2,q3,q4,λb hb=>?_⟩;obtain⟨r1,r2,r3⟩:=q5 b hb;refine⟨by omega,r2,λe=>?_⟩;rcases e with e|e
    ·exact r3 e
    ·have:=(oav b e).2;omega
   have s1:AnsAt w5 w.heap.size (λk=>F5.use k\/av.ownBlock=some k) (az++[(m.doS i q).2]) (cs++[c]):=AnsAt.snoc A5 a6;have s2:AnsAt w6 w.heap.size (λk=>(F5.use k\/av.ownBlock=some k)\/(F5.use k\/av7.ownBlock=some k)) (az++[(m.doS i q).2]) (cs++[c]):=AnsAt.kp (AnsAt.to s1 λb _ hl hn e=>by
    rcases e with e|e
    ·exact hn e
    ·exact weak b (by omega) hn e) (Kp.of_below B56 λb=>w5.heap.size<=b) λb _ h1 _ h2=>by omega
   exact AnsAt.to (AnsAt.kp s2 K7 λb _ _ hn e=>hn (.inl (.inr e))) λb _ _ hn e=>hn (.inr e)
  ·rw[List.append_assoc];exact_mod_cast hr2
 ·have:i=qs.length:=by omega
  subst this;simp(disch:=first|omega|(simp only[sZb,sZa,sZd]<;>omega)|(simp(disch:=first|omega|(simp only[sZb,sZa,sZd]<;>omega)|fail)only[go_sem];done)|fail)only[go_sem,zaE,zaI,zaC,zaG,zaF,w_u8,zaD,Int.reduceToNat,Int.reducePow,Nat.reducePow];refine zaR ?_;intro u;simp only[List.drop_length,SM.runM,List.append_nil]at hr1 hr2;rw[hr1]at h3 inv;rw[hr2]at hA;exact hk _ _ _ _ _ h3 o3 hav hA inv B3 hU3
theorem zrA(h:MemS w B p m F)(hB:B<=w.heap.size)(wf:SM.Wf m)(hN:m.names.length<=900000)
  (hk:∀w' v es,EntO w' w.heap.size v es->es.map (·.1)=m.tree->Below w.heap.size w w'->K v w'):Cl P Fn.cP #[pt p 0] w K:=by
 apply zlT;unfold zir;obtain⟨vn,va,vd,q,ds,hl,c,hb,ρ,h⟩:=h;rw[zb4 (n:=5) _ _ U.aq (by kernel_rfl)];obtain⟨W6,e6⟩:∃W6,W6=w.alloc (CB [] T.aE):=⟨_,rfl⟩;have b6:Below w.heap.size w W6:=by rw[e6];repeat (first|exact Below.refl _ _|assumption|refine zag ?_ (by first|omega|(simp only[go_sem]<;>omega)) _|refine Below.alloc ?_ (by first|omega|(simp only[go_sem]<;>omega)) _|refine Below.drew ?_)
 have r6:bk W6 w.heap.size=some (CB [] T.aE):=by rw[e6];exact zah _ _ _ rfl
 have o6:W6.ownsRow w.heap.size T.aE 5 (sl w.heap.size 0 0 0) 0 []:=zlE r6 rfl (Nat.le_refl _) (Nat.zero_le _);rw[<-e6];have z6:W6.heap.size=w.heap.size+1:=by rw[e6];simp only[go_sem]
 have h6:=h.old b6;clear e6;have bm:=h6.bm;have hE6:EntO W6 w.heap.size (sl w.heap.size 0 0 0) []:=⟨o6,λx hx=>(by cases hx),λx hx=>(by cases hx)⟩;obtain⟨na,nc,en⟩:=zal h6.on;subst en;refine zaR ?_;simp(disch:=first|omega|(simp only[sZb,sZa,sZd]<;>omega)|(simp(disch:=first|omega|(simp only[sZb,sZa,sZd]<;>omega)|fail)only[go_sem,bm];done)|fail)only[go_sem,zaE,zaI,zaC,zaG,zaF,w_u8,zaD,Int.reduceToNat,Int.reducePow,Nat.reducePow,bm];refine zay (λt w'=>∃ov es,∃i:Nat,t=[ov,.int .i64 i]/\i<=m.names.length/\EntO w' w.heap.size ov es/\es.map (·.1)=m.tree.take i/\(∀b,ov.ownBlock=some b->w.heap.size<=b)/\Below w.heap.size w w') (λt _=>m.names.length - (RowKit.intOf (gs t 1)).toNat) ⟨_,[],0,rfl,Nat.zero_le _,hE6,by simp,λb hb=>?_,b6⟩ ?_
 ·have:w.heap.size=b:=Option.some.inj hb;omega
 rintro t e w3 ⟨ov,es,i,rfl,hi,E3,ev3,lo3,B3⟩;rw[gs1,gs0,oLss];by_cases g:(i:Int)<m.names.length
 ·have hix:i<m.names.length:=by omega
  have hia:i<m.ats.length:=by rw[wf.la];exact hix
  have h3:=h.old B3;have bm3:=h3.bm;have tx:=SM.tree_at wf hix;have hx:m.ats[i]<m.nodes.length:=wf.lt _ (List.getElem_mem hia);obtain⟨g1,q1,q2,q3,q4⟩:=zhw h3.on rfl hix;obtain⟨g2,cur2,r1,r2,rb,rl,rt,r3⟩:=zhp U.au (by kernel_rfl) h3.oa hia;have rc:cur2[i]?=some (.int .i64 (m.ats[i]:Int)):=by rw[zlk rt (by omega)];simp[hia]
  have l2:=zai rb;have lp:=zai bm3;obtain⟨g3,cur,nn,_,_⟩:=h3.node hx;obtain⟨dd,dF⟩:=h3.data hx;have bg:=nn.bg;have ixn:=nn.ix;have l3:=zai bg;have nrow:zaY (bk w3 g3) (m.ats[i]*5) 5=some (zbw (m.node m.ats[i]) (ds[m.ats[i]]'(by rw[h3.dl];exact hx))):=by rw[bg,zm1 _ _ _ _ (by have:=nn.len;omega),nn.row]
  generalize ds[m.ats[i]]'(by rw[h3.dl];exact hx)=dv at*;generalize m.ats[i]=x at*;simp(disch:=first|omega|(simp only[sZb,sZa,sZd]<;>omega)|(simp(disch:=first|omega|(simp only[sZb,sZa,sZd]<;>omega)|fail)only[go_sem];done)|fail)only[go_sem,zaE,zaI,zaC,zaG,zaF,w_u8,zaD,Int.reduceToNat,Int.reducePow,Nat.reducePow];refine zaR ?_;intro u;rw[q3,q4 w3 rfl];obtain⟨aa,ac,ea⟩:=zal h3.oa;obtain⟨da,dc,ed⟩:=zal h3.od;subst ea ed;have ixn':=λM=>ixn .i64 M;have r3':=λM=>r3 .i64 M;obtain⟨dva,dvc,edv⟩:=zaK dd;subst edv;rw[Nat.mul_one]at r3';simp(disch:=first|omega|(simp only[sZb,sZa,sZd]<;>omega)|(simp(disch:=first|omega|(simp only[sZb,sZa,sZd]<;>omega)|fail)only[go_sem,bm3,r3',ixn',nrow,rb,rc];done)|fail)only[go_sem,zaE,zaI,zaC,zaG,zaF,w_u8,zaD,Int.reduceToNat,Int.reducePow,Nat.reducePow,bm3,r3',ixn',nrow,rb,rc];refine⟨trivial,trivial,trivial,trivial,?_⟩;obtain⟨w8,e8⟩:∃w8,w8=setb (w3.alloc (CB [.bool false,.int .i64 0,.slice none 0 0,.int .i64 0,S []] T.ag)).drew w3.heap.size (CB (zbw (m.node x) (.slice dva (m.node x).data.length dvc)) T.ag):=⟨_,rfl⟩;have B8:Below w3.heap.size w3 w8:=by rw[e8];repeat (first|exact Below.refl _ _|assumption|refine zag ?_ (by first|omega|(simp only[go_sem]<;>omega)) _|refine Below.alloc ?_ (by first|omega|(simp only[go_sem]<;>omega)) _|refine Below.drew ?_)
  rw[<-e8];clear e8;have z3:=B3.size;have z8:=B8.size;have lo:=zeO E3.o;refine ztw (e:=m.ent m.names[i] x) (x:=.slice dva (m.node x).data.length dvc) (E3.old B8) (by have:=congrArg List.length ev3;rw[List.length_map,List.length_take]at this;omega) (by omega) (zct dd B8 (Nat.le_refl _)) (.inr λb hb e=>by have:=h.lt b (dF b hb).1;have:=lo3 b e;omega) λov' w9 E9 k9 l9 B9=>?_;refine⟨⟨ov',_,i+1,rfl,by omega,E9,?_,λb hb=>?_,(B3.trans (B8.mono z3)).trans B9⟩,by simp only[gs1,intOf];omega⟩
  ·rw[List.map_append,ev3,List.take_succ_eq_append_getElem (by rw[SM.zhC wf];exact hix),tx];rfl
  ·rcases l9 b hb with e|e
   ·exact lo3 b e
   ·omega
 ·have:i=m.names.length:=by omega
  subst this;simp(disch:=first|omega|(simp only[sZb,sZa,sZd]<;>omega)|(simp(disch:=first|omega|(simp only[sZb,sZa,sZd]<;>omega)|fail)only[go_sem];done)|fail)only[go_sem,zaE,zaI,zaC,zaG,zaF,w_u8,zaD,Int.reduceToNat,Int.reducePow,Nat.reducePow];refine zaR ?_;intro u;rw[List.take_of_length_le (by rw[SM.zhC wf];exact Nat.le_refl _)]at ev3;exact hk _ _ _ E3 ev3 B3
theorem entW(w3:World)(c:List Value):∃w4,w4=setb (w3.alloc (CB [S [],.int .i64 0,.bool false,.slice none 0 0,.int .i64 0] T.aE)) w3.heap.size (CB c T.aE)/\Below w3.heap.size w3 w4/\bk w4 w3.heap.size=some (CB c T.aE)/\w4.heap.size=w3.heap.size+1:=by
 refine⟨_,rfl,?_,?_,?_⟩
 ·repeat (first|exact Below.refl _ _|assumption|refine zag ?_ (by first|omega|(simp only[go_sem]<;>omega)) _|refine Below.alloc ?_ (by first|omega|(simp only[go_sem]<;>omega)) _|refine Below.drew ?_)
 ·exact zar _ _ _ _ rfl (by simp only[go_sem];omega)
 ·simp only[go_sem]
theorem oNeqB{L:Value->Prop}(cx cy:Bool)(x y:Bool):pu P (oBin .neq T.aU cx cy (.bool x) (.bool y)) L=L (.bool (x !=y)):=zcg (by rw[zat,zlt];simp only[Option.bind_some];have e2:binOp .neq T.aU (.bool x) (.bool y)=(do pure (.bool (!(<-Op.equal T.aU (.bool x) (.bool y))))):=rfl;have e3:rp P (Op.equal T.aU (.bool x) (.bool y))=some (decide (x=y)):=rp_eqB U.aJ;rw[e2,zat,e3];cases x<;>cases y<;>rfl)
theorem zsF{v v':Value}{l l':List EV}(h:EntS w v l)(h':EntS w v' l')(he0:l.map (·.1)=l'.map (·.1))(hl:l.length<=1000000)(hd:∀x∈l,x.1.data.length<=281474976710656)(hk:LkK w true K):Cl P Fn.co #[v,v'] w K:=by
 apply zj3;unfold zgH;obtain⟨a,c,ev⟩:=h.slice;obtain⟨a',c',ev'⟩:=h'.slice;have ln:l.length=l'.length:=by have:=congrArg List.length he0;simpa using this
 refine zaa (λt w'=>w'=w) ?_ ?_;rotate_left
 ·rw[ev,ev'];simp(disch:=first|omega|(simp(disch:=first|omega|fail)only[go_sem,ln]<;>omega)|fail)only[go_sem,ln]
 rintro t e w1 rfl;unfold zfa;refine zaR ?_;rw[ev,V.ai,<-ev];refine zay (λt w'=>∃i:Nat,t=[.int .i64 i]/\i<=l.length/\Below w1.heap.size w1 w') (λt _=>l.length - (RowKit.intOf (gs t 0)).toNat) ⟨0,rfl,Nat.zero_le _,Below.refl _ _⟩ ?_;rintro t e w3 ⟨i,rfl,hi,B3⟩;rw[gs0,oLss];by_cases g:(i:Int)<l.length
 ·have hix:i<l.length:=by omega
  have hix':i<l'.length:=by omega
  simp(disch:=first|omega|(simp(disch:=first|omega|fail)only[go_sem]<;>omega)|fail)only[go_sem];refine zaR ?_;intro u;unfold zfg;rw[gs0];have h3:=h.old B3;have h3':=h'.old B3;obtain⟨b,o,row,blt,ix⟩:=h3.idx hix;obtain⟨b',o',row',blt',ix'⟩:=h3'.idx hix';have he:l[i].1=l'[i].1:=by have:=congrArg (λz=>z[i]?) he0;simpa[hix,hix']using this
  have d1:=h3.1 _ (List.getElem_mem hix);have d2:=h3'.1 _ (List.getElem_mem hix');have dl:=hd _ (List.getElem_mem hix);unfold entP at row row';rw[<-he]at row' d2;generalize l[i].1=en at*;generalize l[i].2=x at*;generalize l'[i].2=x' at*;obtain⟨xa,xc,rfl⟩:=zaK d1;obtain⟨xa',xc',rfl⟩:=zaK d2;refine zaR ?_;rw[ix];simp(disch:=first|omega|(simp(disch:=first|omega|fail)only[go_sem,row]<;>omega)|fail)only[go_sem,row];obtain⟨w4,e4,B4,b4,z4⟩:=entW w3 [S en.name,.int .i64 en.mode,.bool en.dir,.slice xa en.data.length xc,.int .i64 en.time];rw[<-e4,ix'];clear e4;have row4:=row';rw[<-zaH B4 blt']at row4;simp(disch:=first|omega|(simp(disch:=first|omega|fail)only[go_sem,row4]<;>omega)|fail)only[go_sem,row4];obtain⟨w5,e5,B5,b5,z5⟩:=entW w4 [S en.name,.int .i64 en.mode,.bool en.dir,.slice xa' en.data.length xc',.int .i64 en.time];rw[<-e5];clear e5;have b45:=(zaH B5 (zai b4)).trans b4;have z3:=B3.size;have B35:=B4.trans (B5.mono (by omega));have nS:∀L:Value->Prop,pu P (oBin .neq T.ah false false (S en.name) (S en.name)) L=L (.bool false):=λL=>by simp(disch:=first|omega|(simp(disch:=first|omega|fail)only[go_sem,ne_eq,not_true_eq_false,decide_false]<;>omega)|fail)only[go_sem,ne_eq,not_true_eq_false,decide_false]
  have cx:∀L:Value->World->Prop,st P (zjW T.ai T.ah (.slice xa en.data.length xc)) w5 L=L (S en.data) w5:=λL=>zph U.ag U.ab U.aF (zct d1 B35 (Nat.le_refl _));have cx':∀L:Value->World->Prop,st P (zjW T.ai T.ah (.slice xa' en.data.length xc')) w5 L=L (S en.data) w5:=λL=>zph U.ag U.ab U.aF (zct d2 B35 (Nat.le_refl _));simp(disch:=first|omega|(simp(disch:=first|omega|fail)only[go_sem,b45,b5,ne_eq,not_true_eq_false,decide_false,cx,cx',oNeqB,bne_self_eq_false]<;>omega)|fail)only[go_sem,b45,b5,ne_eq,not_true_eq_false,decide_false,cx,cx',oNeqB,bne_self_eq_false];intro u;unfold zas;rw[gs0];simp(disch:=first|omega|(simp(disch:=first|omega|fail)only[go_sem]<;>omega)|fail)only[go_sem];exact⟨⟨i+1,rfl,by omega,B3.trans (B35.mono z3)⟩,by simp only[gs0,intOf];omega⟩
 ·have:i=l.length:=by omega
  subst this;simp(disch:=first|omega|(simp(disch:=first|omega|fail)only[go_sem]<;>omega)|fail)only[go_sem];refine zaR ?_;intro u;unfold zaU;exact hk w3 B3
end
end Go.Proofs.YtdljebgllipdjaaGreatDoor.X
end
section
namespace Go.X
open Go Go.RowKit Go.WideShapes Go.Deep
section
variable{H:Type}{enc:TypeId×Value->H}{P:Program}{W:World}
theorem zmF{t e:TypeId}{size fuel:Nat}{cs:List Value}{x:DataW H×List MemPlace}(ht:P.underlying t=some (.slice e))(hc:P.cellsOf e=size)(h0:0<size)(h:DataW.trod enc P W 0 (λ_=>true) true fuel t cs=some x):
  (∃a cap,cs=[.slice a 0 cap])\/∃b o n cap,cs=[sl b o n cap]/\n<=cap/\cap<=maxLen/\b<W.heap.size/\n≠0/\∃m,∀i,i<n->∃c y,zaY (bk W b) (o+i*size) size=some c/\DataW.trod enc P W 0 (λ_=>true) true m e c=some y:=by
 rcases open_slice ht h with⟨h1,_⟩|⟨a,n,cap,m,k,D,Pl,rfl,_,h2,h3,h4,_,h5⟩
 ·exact .inl ⟨none,0,h1⟩
 ·by_cases hn:n=0
  ·subst hn;exact .inl ⟨_,_,rfl⟩
  simp only[if_true]at h4;subst h4;obtain⟨c0,hc0,_⟩:=h5 0 (by omega);obtain⟨_,hl0,hg0⟩:=World.cells?_some hc0;rw[hc]at hl0;have h00:=hg0 0 (by omega);have hne:c0[0]?≠none:=by rw[List.getElem?_eq_getElem (by omega)];simp
  have hspot:a.spot=none:=by
   cases hs:a.spot with
   |none=>rfl
   |some s=>
    exfalso;have hs2:((a.add (0*P.cellsOf e)).add 0).spot=some s:=by rw[Nat.zero_mul];exact hs
    unfold World.cell? at h00;rw[hs2]at h00;split at h00
    ·simp at h00;rw[h00]at hl0;simp at hl0;omega
    ·exact hne h00.symm
  obtain⟨b,o,sp⟩:=a;simp only at hspot;subst hspot;have row:∀i,i<n->∃c y,zaY (bk W b) (o+i*size) size=some c/\DataW.trod enc P W 0 (λ_=>true) true k e c=some y:=λi hi=>by
   obtain⟨c,hc1,hc2⟩:=h5 i (by omega);obtain⟨_,hl,hg⟩:=World.cells?_some hc1;rw[hc]at hl hg;refine⟨c,_,?_,hc2⟩;have cell:∀j,j<size->za0 (bk W b) (o+i*size+j)=c[j]?:=λj hj=>by have:=hg j hj;rw[Addr.add_lit,Addr.add_lit,cell?_eq]at this;exact this
   have hz:=cell (size - 1) (by omega);have hlt:c[size - 1]?≠none:=by rw[List.getElem?_eq_getElem (by omega)];simp
   unfold za0 at hz;split at hz
   ·rename_i cc tt fz hb;rw[hb]at cell⊢;simp only[zaY];have hlast:o+i*size+(size - 1)<cc.size:=by refine Nat.lt_of_not_le λhle=>hlt ?_;rw[<-hz,Array.getElem?_eq_none hle]
    rw[if_pos (by omega)];congr 1;apply List.ext_getElem?;intro j;by_cases hj:j<size
    ·rw[List.getElem?_take_of_lt hj,List.getElem?_drop];have:cc[o+i*size+j]?=c[j]?:=cell j hj;rw[Array.getElem?_toList,this]
    ·rw[List.getElem?_eq_none (by simp;omega),List.getElem?_eq_none (by omega)]
   ·exact absurd hz.symm hlt
  refine .inr ⟨b,o,n,_,rfl,h2,h3,?_,hn,k,row⟩;obtain⟨c,y,hr,_⟩:=row 0 (by omega);obtain⟨c',t',fz,e1,_⟩:=zbs hr;exact zai e1
theorem zll{t e:TypeId}{fuel:Nat}{cs:List Value}{x:DataW H×List MemPlace}(ht:P.underlying t=some (.slice e))(he:P.underlying e=some (.int .u8))(hc:P.cellsOf e=1)(h:DataW.trod enc P W 0 (λ_=>true) true fuel t cs=some x):
  ∃v l,cs=[v]/\BS W v l/\l.length<=maxLen:=by
 rcases zmF ht hc (by omega) h with⟨a,cap,rfl⟩|⟨b,o,n,cap,rfl,h1,h2,h3,h4,m,h5⟩
 ·exact⟨_,[],rfl,.inl ⟨rfl,_,_,rfl⟩,by simp⟩
 ·have hx:∀i,i<n->∃z:UInt8,zaY (bk W b) (o+i) 1=some [byt z]:=λi hi=>by
   obtain⟨c,y,e1,e2⟩:=h5 i hi;obtain⟨q,rfl,_,e3⟩:=DataW.trod_int he e2;simp only[Lit.wf,Bool.and_eq_true,decide_eq_true_eq]at e3;have z0:0<=q:=e3.1;have z1:q<=255:=e3.2;refine⟨UInt8.ofNat q.toNat,?_⟩;rw[Nat.mul_one]at e1;rw[e1,byt];congr 3;simp
   omega
  have hlist:∃l:List UInt8,l.length=n/\∀i(hi:i<l.length),zaY (bk W b) (o+i) 1=some [byt l[i]]:=by refine⟨(List.range n).map λi=>match zaY (bk W b) (o+i) 1 with|some [.int _ q]=>UInt8.ofNat q.toNat|_=>0,by simp,λi hi=>?_⟩;obtain⟨z,hz⟩:=hx i (by simpa using hi);simp only[List.getElem_map,List.getElem_range,hz,byt];simp
  obtain⟨l,hl,hV⟩:=hlist;subst hl;refine⟨_,l,rfl,.inr ⟨b,o,cap,rfl,h1,?_,h3⟩,by omega⟩;have cell:∀i(hi:i<l.length),za0 (bk W b) (o+i)=some (byt l[i]):=λi hi=>by have hr:=hV i hi;obtain⟨c,tt,fz,e1,e2,e3⟩:=zbs hr;rw[e1];show c[o+i]?=_;have:=congrArg (·[0]?) e3;simp only[List.getElem?_take_of_lt (show 0<1 by omega),List.getElem?_drop,Nat.add_zero,Array.getElem?_toList]at this;simpa using this
  unfold rowB;have hlast:=hV (l.length - 1) (by omega);obtain⟨c,tt,fz,e1,e2,e3⟩:=zbs hlast;rw[e1]at cell⊢;simp only[zaY];have e2':o+(l.length - 1)+1<=c.size:=e2;rw[if_pos (by omega)];congr 1;apply List.ext_getElem?;intro i;by_cases hi:i<l.length
  ·rw[List.getElem?_take_of_lt hi,List.getElem?_drop,Array.getElem?_toList];have:c[o+i]?=some (byt l[i]):=cell i hi;rw[this];simp[hi]
  ·rw[List.getElem?_eq_none (by simp;omega),List.getElem?_eq_none (by simp;omega)]
end
end Go.X
end
section
namespace Go.Proofs.YtdljebgllipdjaaGreatDoor.X
open Go Go.X Go.Proofs Go.RowKit Go.WideShapes
abbrev i64(n:Int):Prop:=-9223372036854775808<=n/\n<=9223372036854775807
structure FitS(q:SM.Stp):Prop where
 op:i64 q.op
 flag:i64 q.flag
 perm:i64 q.perm
 h:i64 q.h
 off:i64 q.off
 wh:i64 q.wh
 n:i64 q.n
 name:q.name.length<=maxLen
 other:q.other.length<=maxLen
 data:q.data.length<=maxLen
section
variable{H:Type}{enc:TypeId×Value->H}{W:World}
theorem zhy{t:TypeId}{fuel:Nat}{cs:List Value}{x:DataW H×List MemPlace}(ht:P.underlying t=some (.int .i64))(h:DataW.trod enc P W 0 (λ_=>true) true fuel t cs=some x):∃n,cs=[.int .i64 n]/\i64 n:=by obtain⟨n,e,_,w⟩:=DataW.trod_int ht h;simp only[Lit.wf,Bool.and_eq_true,decide_eq_true_eq]at w;exact⟨n,e,w.1,w.2⟩
theorem ztH{t:TypeId}{fuel:Nat}{cs:List Value}{x:DataW H×List MemPlace}(ht:P.underlying t=some .string)(h:DataW.trod enc P W 0 (λ_=>true) true fuel t cs=some x):∃l,cs=[S l]/\l.length<=maxLen:=by obtain⟨s,e,_,w⟩:=DataW.trod_string ht h;exact⟨s.data.toList,e,w⟩
theorem zkL{β:Type}(R:Nat->β->Prop):∀(n:Nat),(∀i,i<n->∃b,R i b)->∃m:List β,m.length=n/\∀i(h:i<m.length),R i m[i]
 |0,_=>⟨[],rfl,λi h=>absurd h (by simp)⟩
 |n+1,h=>by
  obtain⟨m,e,hm⟩:=zkL R n λi hi=>h i (by omega);obtain⟨b,hb⟩:=h n (by omega);refine⟨m++[b],by simp[e],λi hi=>?_⟩;by_cases q:i<m.length
  ·rw[List.getElem_append_left q];exact hm i q
  ·have:i=m.length:=by simp at hi;omega
   subst this;rw[List.getElem_append_right (by omega)];simp only[Nat.sub_self,List.getElem_cons_zero];rw[e];exact hb
theorem zrU{fuel:Nat}{c:List Value}{x:DataW H×List MemPlace}(h:DataW.trod enc P W 0 (λ_=>true) true fuel T.ae c=some x):∃(q:SM.Stp)(v:Value),c=zba q v/\FitS q/\BS W v q.data:=by
 obtain⟨xs,n,_,_,hl,hlen,hf⟩:=DataW.trod_struct Tryz.underlying36 h;have hl:c.length=10:=hl
 match c,hl with
 |[c0,c1,c2,c3,c4,c5,c6,c7,c8,c9],_=>
  have g:∀i,i<10->∃y,xs[i]?=some y:=λi hi=>⟨xs[i]'(by rw[hlen];exact hi),List.getElem?_eq_getElem _⟩;obtain⟨y0,z0⟩:=g 0 (by omega);obtain⟨y1,z1⟩:=g 1 (by omega);obtain⟨y2,z2⟩:=g 2 (by omega);obtain⟨y3,z3⟩:=g 3 (by omega);obtain⟨y4,z4⟩:=g 4 (by omega);obtain⟨y5,z5⟩:=g 5 (by omega);obtain⟨y6,z6⟩:=g 6 (by omega);obtain⟨y7,z7⟩:=g 7 (by omega);obtain⟨y8,z8⟩:=g 8 (by omega);obtain⟨y9,z9⟩:=g 9 (by omega);obtain⟨n0,e0,w0⟩:=zhy U.int ((hf 0 _ rfl).trans z0);obtain⟨l1,e1,w1⟩:=ztH U.ag ((hf 1 _ rfl).trans z1);obtain⟨l2,e2,w2⟩:=ztH U.ag ((hf 2 _ rfl).trans z2);obtain⟨n3,e3,w3⟩:=zhy U.int ((hf 3 _ rfl).trans z3);obtain⟨n4,e4,w4⟩:=zhy U.int ((hf 4 _ rfl).trans z4);obtain⟨n5,e5,w5⟩:=zhy U.int ((hf 5 _ rfl).trans z5);obtain⟨v6,l6,e6,b6,w6⟩:=zll U.ab U.aF (by kernel_rfl) ((hf 6 _ rfl).trans z6);obtain⟨n7,e7,w7⟩:=zhy U.aI ((hf 7 _ rfl).trans z7);obtain⟨n8,e8,w8⟩:=zhy U.int ((hf 8 _ rfl).trans z8);obtain⟨n9,e9,w9⟩:=zhy U.int ((hf 9 _ rfl).trans z9);replace e0:[c0]=[.int .i64 n0]:=e0;replace e1:[c1]=[S l1]:=e1;replace e2:[c2]=[S l2]:=e2;replace e3:[c3]=[.int .i64 n3]:=e3;replace e4:[c4]=[.int .i64 n4]:=e4;replace e5:[c5]=[.int .i64 n5]:=e5;replace e6:[c6]=[v6]:=e6;replace e7:[c7]=[.int .i64 n7]:=e7;replace e8:[c8]=[.int .i64 n8]:=e8;replace e9:[c9]=[.int .i64 n9]:=e9;obtain rfl:c0=.int .i64 n0:=by injection e0
  obtain rfl:c1=S l1:=by injection e1
  obtain rfl:c2=S l2:=by injection e2
  obtain rfl:c3=.int .i64 n3:=by injection e3
  obtain rfl:c4=.int .i64 n4:=by injection e4
  obtain rfl:c5=.int .i64 n5:=by injection e5
  obtain rfl:c6=v6:=by injection e6
  obtain rfl:c7=.int .i64 n7:=by injection e7
  obtain rfl:c8=.int .i64 n8:=by injection e8
  obtain rfl:c9=.int .i64 n9:=by injection e9
  exact⟨⟨n0,l1,l2,n3,n4,n5,l6,n7,n8,n9⟩,_,rfl,⟨w0,w3,w4,w5,w7,w8,w9,w1,w2,w6⟩,b6⟩
theorem open_steps{r:Reach}{b0:Nat}{v:Value}{d:DataW H}{p:List MemPlace}(hv:Value.okWide P W r b0 T.aO v)(h:DataW.Trod enc P W 0 (λ_=>true) true T.aO v d p):∃qs:List SM.Stp,(∃vs,StepsAt W v qs vs)/\(∀q∈qs,FitS q)/\qs.length<=maxLen:=by
 obtain⟨a,n,cap,rfl⟩:=okWide_slice U.ay hv;obtain⟨fuel,hf⟩:=h;have hf:DataW.trod enc P W 0 (λ_=>true) true fuel T.aO [.slice a n cap]=some (d,p):=hf;rcases zmF (size:=10) U.ay (by kernel_rfl) (by omega) hf with⟨a',cap',e⟩|⟨b,o,n',cap',e,h1,h2,h3,h4,m,h5⟩
 ·injection e with e;rw[e];exact⟨[],⟨[],rfl,(λi h1=>absurd h1 (by simp)),.inl ⟨rfl,a',cap',rfl⟩⟩,λq hq=>(by cases hq),by simp⟩
 ·injection e with e;rw[e];obtain⟨qs,hl,hq⟩:=zkL (λi(q:SM.Stp×Value)=>zaY (bk W b) (o+i*10) 10=some (zba q.1 q.2)/\FitS q.1/\BS W q.2 q.1.data) n' λi hi=>by obtain⟨c,y,e1,e2⟩:=h5 i hi;obtain⟨q,v,rfl,q1,q2⟩:=zrU e2;exact⟨(q,v),e1,q1,q2⟩
  subst hl;refine⟨qs.map (·.1),⟨qs.map (·.2),by simp,λi h1 h2=>?_,.inr ⟨b,o,cap',by simp,h3,λi g1 g2=>?_⟩⟩,λq hm=>?_,by simp;omega⟩
  ·simp only[List.getElem_map];exact(hq i (by simpa using h1)).2.2
  ·simp only[List.getElem_map];exact(hq i (by simpa using g1)).1
  ·obtain⟨x,hx,rfl⟩:=List.mem_map.1 hm;obtain⟨i,hi,rfl⟩:=List.getElem_of_mem hx;exact(hq i hi).2.1
end
theorem Sn.mono{w:World}{B C:Nat}{m:Nat->Nat×Nat}(h:Sn w B m)(hC:B<=C):Sn w C m:=⟨λg hg=>⟨by have:=(h.at_ g hg).1;omega,(h.at_ g hg).2⟩,λg hg=>⟨by have:=(h.cell g hg).1;omega,(h.cell g hg).2⟩,h.inj⟩
theorem Sn.next{w w':World}{m:Nat->Nat×Nat}(h:Sn w w.heap.size m)(b:Below w.heap.size w w'):Sn w' w'.heap.size m:=(h.below b).mono b.size
theorem zqt{w:World}{K:Value->World->Prop}{q:SM.Stp}{v:Value}(hv:BS w v q.data)(hk:∀b w',Below w.heap.size w w'->K (.bool b) w'):Cl P Fn.dg #[AG (zba q v)] w K:=by
 apply zmy;unfold zji;have one:=zem hv;obtain⟨a,cap,hvv⟩:=zaK hv;rw[zcH];have h0:bk (w.alloc (CB (zba q v) T.ae)) w.heap.size=some (CB (zba q v) T.ae):=zah _ _ _ rfl;have BB:Below w.heap.size w (w.alloc (CB (zba q v) T.ae)):=Below.alloc (Below.refl _ _) (Nat.le_refl _) _;generalize w.alloc (CB (zba q v) T.ae)=w1 at*;refine zaa (λt w'=>w'=w1) ?_ ?_
 ·rintro t e w2 rfl;refine zaa (λt w'=>w'=w2) ?_ ?_
  ·rintro t e w3 rfl;refine zaa (λt w'=>w'=w3) ?_ ?_
   ·rintro t e w4 rfl;exact hk _ _ BB
   ·by_cases c:(2147483647:Int)<q.data.length
    ·simp(disch:=first|omega|(simp(disch:=first|omega|fail)only[go_sem,h0,hvv]<;>omega)|fail)only[go_sem,h0,hvv];exact hk _ _ BB
    ·simp(disch:=first|omega|(simp(disch:=first|omega|fail)only[go_sem,h0,hvv]<;>omega)|fail)only[go_sem,h0,hvv]
  ·by_cases c:(2147483647:Int)<q.other.length
   ·simp(disch:=first|omega|(simp(disch:=first|omega|fail)only[go_sem,h0]<;>omega)|fail)only[go_sem,h0];exact hk _ _ BB
   ·simp(disch:=first|omega|(simp(disch:=first|omega|fail)only[go_sem,h0]<;>omega)|fail)only[go_sem,h0]
 ·by_cases c:(2147483647:Int)<q.name.length
  ·simp(disch:=first|omega|(simp(disch:=first|omega|fail)only[go_sem,h0]<;>omega)|fail)only[go_sem,h0];exact hk _ _ BB
  ·simp(disch:=first|omega|(simp(disch:=first|omega|fail)only[go_sem,h0]<;>omega)|fail)only[go_sem,h0]
theorem zqq{w:World}{K:Value->World->Prop}{v:Value}{qs:List SM.Stp}{vs:List Value}(h:StepsAt w v qs vs)(hk:∀b w',Below w.heap.size w w'->K (.bool b) w'):Cl P Fn.dh #[v] w K:=by
 apply zms;unfold zjj;obtain⟨a,cap,rfl⟩:=h.slice;by_cases c:(2147483647:Int)<qs.length
 ·refine zaa (λ_ _=>False) (λ_ _ _ h=>h.elim) ?_;simp(disch:=first|omega|(simp only[sZb,sZa,sZd]<;>omega)|(simp(disch:=first|omega|(simp only[sZb,sZa,sZd]<;>omega)|fail)only[go_sem];done)|fail)only[go_sem,zaE,zaI,zaC,zaG,zaF,w_u8,zaD,Int.reduceToNat,Int.reducePow,Nat.reducePow];exact hk _ _ (Below.refl _ _)
 refine zaa (λt w'=>w'=w) ?_ (by simp(disch:=first|omega|(simp only[sZb,sZa,sZd]<;>omega)|(simp(disch:=first|omega|(simp only[sZb,sZa,sZd]<;>omega)|fail)only[go_sem];done)|fail)only[go_sem,zaE,zaI,zaC,zaG,zaF,w_u8,zaD,Int.reduceToNat,Int.reducePow,Nat.reducePow]);rintro t e w1 rfl;refine zaa (λt w'=>Below w1.heap.size w1 w') ?_ ?_
 ·rintro t e w2 b2;exact hk _ _ b2
 simp(disch:=first|omega|(simp only[sZb,sZa,sZd]<;>omega)|(simp(disch:=first|omega|(simp only[sZb,sZa,sZd]<;>omega)|fail)only[go_sem];done)|fail)only[go_sem,zaE,zaI,zaC,zaG,zaF,w_u8,zaD,Int.reduceToNat,Int.reducePow,Nat.reducePow];refine zay (λt w'=>Below w1.heap.size w1 w'/\∃i:Nat,t=[.int .i64 i]/\i<=qs.length) (λt _=>qs.length - (RowKit.intOf (gs t 0)).toNat) ⟨Below.refl _ _,0,rfl,by omega⟩ ?_;rintro t e w2 ⟨b2,i,rfl,hi⟩;by_cases g:(i:Int)<qs.length
 ·have hix:i<qs.length:=by omega
  simp(disch:=first|omega|(simp only[sZb,sZa,sZd]<;>omega)|(simp(disch:=first|omega|(simp only[sZb,sZa,sZd]<;>omega)|fail)only[go_sem];done)|fail)only[go_sem,zaE,zaI,zaC,zaG,zaF,w_u8,zaD,Int.reduceToNat,Int.reducePow,Nat.reducePow];refine zaa (λt w'=>t=[]/\w'=w2) ?_ ⟨rfl,rfl⟩;rintro t e w3 ⟨rfl,rfl⟩;have hiv:i<vs.length:=by rw[h.1];exact hix
  have hq2:=h.old b2;obtain⟨b,o,hrow,hb,ix⟩:=hq2.idx hix hiv;have hv:=hq2.2.1 i hix hiv;generalize qs[i]=q at*;generalize vs[i]=vq at*;have one:=zem hv;have z:=b2.size;refine zaa (λt w'=>t=[]/\Below w1.heap.size w1 w') ?_ ?_
  ·rintro t e w4 ⟨rfl,b4⟩;refine⟨⟨b4,i+1,rfl,by omega⟩,?_⟩;simp only[RowKit.intOf];omega
  ·simp(disch:=first|omega|(simp only[sZb,sZa,sZd]<;>omega)|(simp(disch:=first|omega|(simp only[sZb,sZa,sZd]<;>omega)|fail)only[go_sem,ix,hrow,one];done)|fail)only[go_sem,zaE,zaI,zaC,zaG,zaF,w_u8,zaD,Int.reduceToNat,Int.reducePow,Nat.reducePow,ix,hrow,one];obtain⟨wA,hwA⟩:∃wA,wA=setb (w3.alloc (CB [.int .i64 0,S [],S [],.int .i64 0,.int .i64 0,.int .i64 0,.slice none 0 0,.int .i64 0,.int .i64 0,.int .i64 0] T.ae)) w3.heap.size (CB (zba q vq) T.ae):=⟨_,rfl⟩;rw[<-hwA];have BA:Below w3.heap.size w3 wA:=by rw[hwA];repeat (first|exact Below.refl _ _|assumption|refine zag ?_ (by first|omega|(simp only[go_sem]<;>omega)) _|refine Below.alloc ?_ (by first|omega|(simp only[go_sem]<;>omega)) _|refine Below.drew ?_)
   refine zqt (zct hv BA (Nat.le_refl _)) λbb w4 b4=>?_;have B4:=(b2.trans (BA.mono z)).trans (b4.mono (by have:=BA.size;omega));cases bb with
   |true=>simp(disch:=first|omega|(simp only[sZb,sZa,sZd]<;>omega)|(simp(disch:=first|omega|(simp only[sZb,sZa,sZd]<;>omega)|fail)only[go_sem];done)|fail)only[go_sem,zaE,zaI,zaC,zaG,zaF,w_u8,zaD,Int.reduceToNat,Int.reducePow,Nat.reducePow];exact⟨trivial,B4⟩
   |false=>simp(disch:=first|omega|(simp only[sZb,sZa,sZd]<;>omega)|(simp(disch:=first|omega|(simp only[sZb,sZa,sZd]<;>omega)|fail)only[go_sem];done)|fail)only[go_sem,zaE,zaI,zaC,zaG,zaF,w_u8,zaD,Int.reduceToNat,Int.reducePow,Nat.reducePow];exact hk _ _ B4
 ·have e1:i=qs.length:=by omega
  subst e1;simp(disch:=first|omega|(simp only[sZb,sZa,sZd]<;>omega)|(simp(disch:=first|omega|(simp only[sZb,sZa,sZd]<;>omega)|fail)only[go_sem];done)|fail)only[go_sem,zaE,zaI,zaC,zaG,zaF,w_u8,zaD,Int.reduceToNat,Int.reducePow,Nat.reducePow];exact zaa (λ_ _=>False) (λ_ _ _ h=>h.elim) b2
end Go.Proofs.YtdljebgllipdjaaGreatDoor.X
end
section
namespace Go.X
open Go Go.RowKit Go.ChangeShapes
end Go.X
end
section
namespace Go.Proofs.YtdljebgllipdjaaGreatDoor.X
open Go Go.X Go.Proofs Go.RowKit Go.ChangeShapes
theorem star:("*" :String)++ "errors.errorString" = "*errors.errorString" :=by decide
theorem errRow(u:TypeId)(h:P.typeName? 3 u=some "*errors.errorString"):u=T.aQ:=typeName_ptr_named (nm:= "errors.errorString") (by rw[star];kernel_rfl) (by kernel_rfl) (by decide) u (by rw[star];exact h)
abbrev senL:List (Nat×String×List UInt8):=[(G.ah, "pub-marram/pub/afero/inner/os.ErrExist",[102,105,108,101,32,97,108,114,101,97,100,121,32,101,120,105,115,116,115]),(G.ab, "pub-marram/pub/afero/inner/os.ErrNotExist",[102,105,108,101,32,100,111,101,115,32,110,111,116,32,101,120,105,115,116]),(G.ai, "pub-marram/pub/afero/inner/os.ENOENT",[110,111,32,115,117,99,104,32,102,105,108,101,32,111,114,32,100,105,114,101,99,116,111,114,121]),(G.aj, "pub-marram/pub/afero/inner/os.ENOTDIR",[110,111,116,32,97,32,100,105,114,101,99,116,111,114,121]),(G.am, "pub-marram/pub/afero/inner/os.EPERM",[111,112,101,114,97,116,105,111,110,32,110,111,116,32,112,101,114,109,105,116,116,101,100]),(G.ap, "pub-marram/pub/afero/inner/os.EIO",[105,110,112,117,116,47,111,117,116,112,117,116,32,101,114,114,111,114]),(G.ak, "pub-marram/pub/afero/inner/os.EBADFD",[102,105,108,101,32,100,101,115,99,114,105,112,116,111,114,32,105,110,32,98,97,100,32,115,116,97,116,101]),(G.ao, "io.EOF",[69,79,70]),(G.af, "io.ErrUnexpectedEOF",[117,110,101,120,112,101,99,116,101,100,32,69,79,70]),(G.ae, "pub-marram/pub/afero/mem.ErrFileClosed",[70,105,108,101,32,105,115,32,99,108,111,115,101,100]),(G.ag, "pub-marram/pub/afero/mem.ErrOutOfRange",[111,117,116,32,111,102,32,114,97,110,103,101])]
abbrev senD(x:Nat×String×List UInt8):String×DataW Unit:=(x.2.1,.iface "*errors.errorString" (.ptr (.agg [.lit (.string x.2.2)])))
theorem zpJ{W:World}:∀(l:List (Nat×String×List UInt8))(ps:List MemPlace),(∀x∈l,P.globalNamed x.2.1=some x.1/\(P.globals[x.1]?).map (·.type)=some T.aA)->DataW.LaidVars P W (l.map senD) ps->ps.Nodup->
  (∀b off,MemPlace.cell b off∈ps->(∃c t,W.heap[b]?=some (.cells c t (0,0)))/\∀u v,W.cell? ⟨b,off,none⟩=some (.iface u v)->Value.okWide P W .any 0 u v)->
  ∃aa:List (Nat×Nat),aa.length=l.length/\aa.Nodup/\(∀a∈aa,MemPlace.cell a.1 a.2∈ps/\∃c t,bk W a.1=some (CB c t))/\∀i(h1:i<l.length)(h2:i<aa.length),∃tt,bk W l[i].1=some (CB [er aa[i]] tt)
 |[],ps,_,_,_,_=>⟨[],rfl,List.nodup_nil,λa h=>(by cases h),λi h1=>absurd h1 (by simp)⟩
 |x::r,ps,hx,hv,hn,hr=>by
  obtain⟨n,nm,tx⟩:=x;obtain⟨g0,t0,cs0,f0,p0,q0,hg0,ht0,hv0,hd0,hq,rfl⟩:=hv;have hx0:=hx _ (List.mem_cons_self ..);obtain rfl:=Option.some.inj (hx0.1.symm.trans hg0);obtain rfl:=Option.some.inj (hx0.2.symm.trans ht0);obtain⟨l0⟩:=cs0;have ok0:∀u v,l0=[.iface u v]->Value.okWide P W .any 0 u v:=λu v e=>by subst e;exact(hr n 0 (by simp[MemPlace.row])).2 u v (by simpa using World.var?_cell hg0 hv0 0)
  obtain⟨a,s,rfl,hc,hs,hz,rfl⟩:=errorString_of_trod Tryz.underlying116 errRow U.ar Tryz.underlying251 rfl rfl U.ag (by kernel_rfl) (by kernel_rfl) hd0 ok0;have hspot:a.spot=none:=by
   unfold World.cell? at hc;split at hc
   ·cases h:a.spot with
    |none=>rfl
    |some s=>rw[h]at hc;simp at hc
   ·cases hc
  obtain⟨b,o,sp⟩:=a;simp only at hspot;subst hspot;have hrow1:MemPlace.row ⟨b,o,none⟩ 1=[MemPlace.cell b o]:=by simp[MemPlace.row]
  have mem1:MemPlace.cell b o∈MemPlace.row ⟨n,0,none⟩ (#[Value.iface T.aQ (pt b o)]:Array Value).size++MemPlace.row ⟨b,o,none⟩ 1++q0:=List.mem_append_left _ (List.mem_append_right _ (by rw[hrow1];exact List.mem_cons_self ..));have mem0:MemPlace.cell n 0∈MemPlace.row ⟨n,0,none⟩ (#[Value.iface T.aQ (pt b o)]:Array Value).size++MemPlace.row ⟨b,o,none⟩ 1++q0:=List.mem_append_left _ (List.mem_append_left _ (by simp[MemPlace.row]));obtain⟨⟨c1,tt1,hb1⟩,_⟩:=hr b o mem1;obtain⟨⟨c0,tt0,hb0⟩,_⟩:=hr n 0 mem0;obtain⟨aa,e1,e2,e3,e4⟩:=zpJ r q0 (λy hy=>hx y (List.mem_cons_of_mem _ hy)) hq (List.nodup_append.1 hn).2.1 λb off hm=>hr b off (List.mem_append_right _ hm);refine⟨(b,o)::aa,by simp[e1],List.nodup_cons.2 ⟨λhm=>?_,e2⟩,λa ha=>?_,λi h1 h2=>?_⟩
  ·exact(List.nodup_append.1 hn).2.2 _ (List.mem_append_right _ (by rw[hrow1];exact List.mem_cons_self ..)) _ (e3 _ hm).1 rfl
  ·rcases List.mem_cons.1 ha with rfl|ha
   ·exact⟨mem1,c1.toList,tt1,hb1⟩
   ·exact⟨List.mem_append_right _ (e3 a ha).1,(e3 a ha).2⟩
  ·cases i with
   |zero=>refine⟨tt0,?_⟩;have e:W.var? P nm=some #[.iface T.aQ (pt b o)]:=hv0;simp only[World.var?,hg0,Option.bind_some,hb0]at e;injection e with e;subst e;exact hb0
   |succ i=>exact e4 i (by simpa using h1) (by simpa using h2)
theorem sn_of{W:World}(h:laidMet P (senL.map senD) W):∃m,Sn W W.heap.size m:=by
 obtain⟨ps,hv,hn,hr⟩:=h;have hx:∀x∈senL,P.globalNamed x.2.1=some x.1/\(P.globals[x.1]?).map (·.type)=some T.aA:=by
  have:(senL.all λx=>P.globalNamed x.2.1==some x.1&&(P.globals[x.1]?).map (·.type)==some T.aA)=true:=by kernel_rfl
  intro x hx;have:=List.all_eq_true.1 this x hx;simpa using this
 obtain⟨aa,e1,e2,e3,e4⟩:=zpJ senL ps hx hv hn hr;have hs:∀g∈sents,∃i,i<11/\(senL.map (·.1))[i]?=some g/\(senL.map (·.1)).idxOf g=i:=by decide
 refine⟨λg=>aa.getD ((senL.map (·.1)).idxOf g) (0,0),λg hg=>?_,λg hg=>?_,λg hg g' hg' e=>?_⟩
 ·obtain⟨i,hi,h1,h2⟩:=hs g hg;obtain⟨tt,h3⟩:=e4 i (by simpa using hi) (by rw[e1];simpa using hi);rw[h2];have h4:senL[i]'(by simpa using hi)=senL[i]'(by simpa using hi):=rfl;have h5:(senL[i]'(by simpa using hi)).1=g:=by rw[List.getElem?_map,List.getElem?_eq_getElem (by simpa using hi)]at h1;exact Option.some.inj h1
  rw[h5]at h3;have h6:aa.getD i (0,0)=aa[i]'(by rw[e1];simpa using hi):=by simp[List.getD,show i<aa.length by rw[e1];simpa using hi]
  rw[h6];exact⟨zai h3,tt,h3⟩
 ·obtain⟨i,hi,h1,h2⟩:=hs g hg;rw[h2];have h6:aa.getD i (0,0)=aa[i]'(by rw[e1];simpa using hi):=by simp[List.getD,show i<aa.length by rw[e1];simpa using hi]
  rw[h6];obtain⟨_,c,t,h7⟩:=e3 _ (List.getElem_mem (by rw[e1];simpa using hi:i<aa.length));exact⟨zai h7,c,t,h7⟩
 ·obtain⟨i,hi,h1,h2⟩:=hs g hg;obtain⟨i',hi',h1',h2'⟩:=hs g' hg';simp only[h2,h2']at e;have h6:aa.getD i (0,0)=aa[i]'(by rw[e1];simpa using hi):=by simp[List.getD,show i<aa.length by rw[e1];simpa using hi]
  have h6':aa.getD i' (0,0)=aa[i']'(by rw[e1];simpa using hi'):=by simp[List.getD,show i'<aa.length by rw[e1];simpa using hi']
  rw[h6,h6']at e;have:=(List.getElem_inj e2).1 e;subst this;rw[h1]at h1';exact Option.some.inj h1'
end Go.Proofs.YtdljebgllipdjaaGreatDoor.X
end
section
namespace Go.Proofs.YtdljebgllipdjaaGreatDoor.X
open Go Go.X Go.Proofs Go.RowKit
section
variable{w:World}{tv:Value}{qs:List SM.Stp}{vs:List Value}{se:Nat->Nat×Nat}
theorem zsX{k:Nat}{m:SM.Mem}(h:Inv k m)(e:SM.Ent)(he:e∈m.tree):e.data.length<=8192/\e.name.length<=500*(k+1):=by obtain⟨x,h1,h2⟩:=(SM.ztc h.wf e).1 he;rw[h2];exact⟨(h.node (h.wf.find_lt h1)).2.1,h.nl _ (SM.zbL h.wf h1).1⟩
theorem znt(hq:StepsAt w tv qs vs)(hs:Sn w w.heap.size se):Cl P Fn.cH #[tv] w λv w'=>v=.bool true/\Below w.heap.size w w':=by
 apply zkZ;unfold zhO;refine zaR ?_;rw[C.bH];refine zqq hq λb w1 B1=>?_;cases b with
 |false=>simp(disch:=first|omega|(simp(disch:=first|omega|fail)only[go_sem]<;>omega)|fail)only[go_sem];exact⟨trivial,B1⟩
 |true=>
  simp(disch:=first|omega|(simp(disch:=first|omega|fail)only[go_sem]<;>omega)|fail)only[go_sem];intro u;refine zaR ?_;have hq1:=hq.old B1;refine zl6 hq1 λw2 B2=>?_;have B12:=B1.trans (B2.mono B1.size);cases hsp:(decide (qs.length<=60)&&SM.zcU SM0 0 qs)with
  |false=>simp(disch:=first|omega|(simp(disch:=first|omega|fail)only[go_sem]<;>omega)|fail)only[go_sem];exact⟨trivial,B12⟩
  |true=>
   simp only[Bool.and_eq_true,decide_eq_true_eq]at hsp;simp(disch:=first|omega|(simp(disch:=first|omega|fail)only[go_sem]<;>omega)|fail)only[go_sem];intro u;have hq2:=hq.old B12;refine zoZ hq2 hsp.1 hsp.2 λw3 p av cs F h3 o3 n3 a3 inv3 B3 u3=>?_;simp(disch:=first|omega|(simp(disch:=first|omega|fail)only[go_sem]<;>omega)|fail)only[go_sem];have z12:=B12.size;have z3:=B3.size;have B13:=B12.trans (B3.mono z12);refine zog (hq.old B13) hsp.1 (hs.next B13) hsp.2 λw4 gv es E4 e4 B4=>?_;have z4:=B4.size;refine zrA (h3.old B4) (by omega) inv3.wf (by have:=inv3.nn;omega) λw5 tv' es' E5 e5 B5=>?_;refine zsF ((E4.old B5).S) E5.S (e4.trans e5.symm) ?_ (λx hx=>?_) λw6 B6=>?_
   ·have:=congrArg List.length e4;rw[List.length_map,SM.zhC inv3.wf]at this;have:=inv3.nn;omega
   ·have:x.1∈(SM.runM SM0 0 qs).1.tree:=by rw[<-e4];exact List.mem_map_of_mem hx
    have:=(zsX inv3 _ this).1;omega
   ·exact⟨rfl,B13.trans (((B4.trans (B5.mono z4)).trans (B6.mono (by have:=B5.size;omega))).mono (by omega))⟩
theorem FnMemTree_walk(v0:Value)(qs:List SM.Stp)(w:World)(h:(∃vs,StepsAt w v0 qs vs)/\(∀q∈qs,FitS q)/\qs.length<=maxLen)(hL:laidMet P (senL.map senD) w):
  Cl P Fn.cH #[v0] w λv w'=>v=.bool true/\Below w.heap.size w w':=by
 obtain⟨m,hs⟩:=sn_of hL;obtain⟨⟨vs,hq⟩,_⟩:=h;exact znt hq hs
end
end Go.Proofs.YtdljebgllipdjaaGreatDoor.X
end
