/- What the claim needs of the texts on it, laid together. No condition. -/
import Derived.Test.YtdljebgllipdjaaGreatDoorZMemSets3
import Derived.Shelf.Path.Clean
set_option linter.unusedVariables false
set_option linter.unusedSimpArgs false
set_option linter.unusedSectionVars false
set_option maxRecDepth 100000
section
namespace Go.Proofs.YtdljebgllipdjaaGreatDoor.X
open Go Go.X Go.Proofs Go.RowKit Go.Lib Go.Shelf
def rhoC:Shelf.Ren:=⟨λx=>match x with|30=>Fn.cz|46=>Fn.dz|47=>Fn.dB|48=>Fn.dy|_=>0,λx=>match x with|0=>0|3=>T.int|4=>T.bool|5=>T.aJ|9=>T.string|30=>T.ah|42=>T.aY|48=>T.aV|_=>0,λx=>x⟩
theorem shelfC:Lays.ph30 P rhoC:=by exact{mixed:=by kernel_rfl,f30:=by kernel_rfl,f46:=by kernel_rfl,f47:=by kernel_rfl,f48:=by kernel_rfl,info5:=by kernel_rfl,t0:=by kernel_rfl,a0:=λ_=>by kernel_rfl,z0:=λ_=>by kernel_rfl,v0:=λ_=>by kernel_rfl,t3:=by kernel_rfl,a3:=λ_=>by kernel_rfl,z3:=λ_=>by kernel_rfl,v3:=λ_=>by kernel_rfl,t4:=by kernel_rfl,a4:=λ_=>by kernel_rfl,z4:=λ_=>by kernel_rfl,v4:=λ_=>by kernel_rfl,t5:=by kernel_rfl,a5:=λ_=>by kernel_rfl,z5:=λ_=>by kernel_rfl,v5:=λ_=>by kernel_rfl,t9:=by kernel_rfl,a9:=λ_=>by kernel_rfl,z9:=λ_=>by kernel_rfl,v9:=λ_=>by kernel_rfl,t30:=by kernel_rfl,a30:=λ_=>by kernel_rfl,z30:=λ_=>by kernel_rfl,v30:=λ_=>by kernel_rfl,t42:=by kernel_rfl,a42:=λ_=>by kernel_rfl,z42:=λ_=>by kernel_rfl,v42:=λ_=>by kernel_rfl,t48:=by kernel_rfl,a48:=λ_=>by kernel_rfl,z48:=λ_=>by kernel_rfl,v48:=λ_=>by kernel_rfl}
theorem zg4{l:List UInt8}{w:World}{K:Value->World->Prop}(hl:l.length<=281474976710656)(h:∀w',Below w.heap.size w w'->K (S (Pa.clean l)) w'):Cl P Fn.cz #[S l] w K:=by have c:=Any.path_Clean shelfC ⟨l.toArray⟩ w (by rw[zpI];exact hl);refine Calls.mono c λe w' he=>?_;exact⟨_,he.1,h _ he.2⟩
theorem zaR{l:Str}{w:World}{K:Value->World->Prop}(hl:l.length<=140737488355328)(h:∀w',Below w.heap.size w w'->K (S (norm l)) w'):Cl P Fn.ag #[S l] w K:=by
 apply ziX;unfold zeP;rw[C.aD];refine zg4 (by omega) λw1 B1=>?_;have hk:=h w1 B1;unfold norm at hk;by_cases c1:Pa.clean l=[46]
 ·rw[if_pos (.inl c1)]at hk;simp(disch:=first|omega|(simp(disch:=first|omega|fail)only[go_sem,decide_eq_true c1]<;>omega)|fail)only[go_sem,decide_eq_true c1];exact hk
 by_cases c2:Pa.clean l=[46,46]
 ·rw[if_pos (.inr c2)]at hk;simp(disch:=first|omega|(simp(disch:=first|omega|fail)only[go_sem,decide_eq_false c1,decide_eq_true c2]<;>omega)|fail)only[go_sem,decide_eq_false c1,decide_eq_true c2];exact hk
 ·rw[if_neg (by simp[c1,c2])]at hk;simp(disch:=first|omega|(simp(disch:=first|omega|fail)only[go_sem,decide_eq_false c1,decide_eq_false c2]<;>omega)|fail)only[go_sem,decide_eq_false c1,decide_eq_false c2];exact hk
theorem zqh{l:Str}{w:World}{K:Value->World->Prop}(hl:l.length<=140737488355328)(h:∀w',Below w.heap.size w w'->K (S (Pa.clean (SM.dirP l))) w'):Cl P Fn.dG #[S l] w K:=by
 apply zqy;unfold zm0;rw[C.a7];refine zhl hl ?_;rw[zar,zaq,C.aD];have e:zeC l=SM.dirP l:=rfl;have hd:(zeC l).length<=l.length:=by
  unfold zeC;split
  ·rw[List.length_take];omega
  ·simp
 refine zg4 (by omega) λw1 B1=>?_;exact h w1 ((Below.refl _ _).drew.trans B1)
end Go.Proofs.YtdljebgllipdjaaGreatDoor.X
end
section
namespace Go.Proofs.YtdljebgllipdjaaGreatDoor.X
open Go Go.X Go.Proofs Go.RowKit Go.X.PM Go.Lib
def optP(o:Option Nat):Value:=match o with|some d=>pt d 0|none=>.pointer none
theorem zp2(o:Option Nat):(o.map ptV).getD (.pointer none)=optP o:=by cases o<;>rfl
theorem hzD:rp P (zeroValue T.af)=some (.pointer none):=by kernel_rfl
section
variable{w w' w0:World}{F0:Fp}{K:Value->World->Prop}{B p mb:Nat}{s:PM.St}{rep:Nat->Rep}{se:Nat->Nat×Nat}
theorem zaF(h:PF w B p s mb rep)(hk:K (.map (some mb)) w):Cl P Fn.ab #[pt p 0] w K:=by
 apply zds;unfold zbW;have hb:=h.bp;refine zaa (λt w'=>w'=w) ?_ ?_
 ·rintro t e w1 rfl;simp(disch:=first|omega|(simp(disch:=first|omega|fail)only[go_sem,hb]<;>omega)|fail)only[go_sem,hb];exact hk
 ·simp(disch:=first|omega|(simp(disch:=first|omega|fail)only[go_sem,hb]<;>omega)|fail)only[go_sem,hb];rw[oEqlM U.af];simp(disch:=first|omega|(simp(disch:=first|omega|fail)only[go_sem,Option.isNone_some]<;>omega)|fail)only[go_sem,Option.isNone_some]
theorem PF.look(h:PF w B p s mb rep)(q:Str)(L:Value->World->Prop):st P (za3 T.ai (.map (some mb)) (S q) true) w L=L (tup [optP (s.g q),.bool (s.g q).isSome]) w:=by obtain⟨M,c,m1,m2,m3⟩:=h.map;rw[zn6 _ U.af (zg2 U.string) hzD m1,m3,zp2,Option.isSome_map]
theorem PF.look1(h:PF w B p s mb rep)(q:Str)(L:Value->World->Prop):st P (za3 T.ai (.map (some mb)) (S q) false) w L=L (optP (s.g q)) w:=by obtain⟨M,c,m1,m2,m3⟩:=h.map;rw[zqx _ U.af (zg2 U.string) hzD m1,m3,zp2]
theorem PT.put(h:PT w0 F0 w B p s mb rep se)(q:Str)(d:Nat){L:Value->World->Prop}(hk:∀w',PT w0 F0 w' B p (s.putG q (some d)) mb rep se->L undef w'):st P (zee T.ai (.map (some mb)) (S q) (pt d 0)) w L:=by
 obtain⟨M,c,m1,m2,m3⟩:=h.pf.map;rw[zlv _ U.af (zg2 U.string) m1];refine hk _ (h.mapSet (m2.put _ _) λk=>?_);rw[zjc,m3];by_cases c:k=q
 ·rw[if_pos c,if_pos c];rfl
 ·rw[if_neg c,if_neg c]
theorem PT.del(h:PT w0 F0 w B p s mb rep se)(q:Str){L:Value->World->Prop}{ty:TypeId}{cs:Array Bool}(hk:∀v w',PT w0 F0 w' B p (s.putG q none) mb rep se->L v w'):st P (zac .delete #[T.ai,T.string] ty cs #[.map (some mb),S q]) w L:=by
 obtain⟨M,c,m1,m2,m3⟩:=h.pf.map;rw[zn9 _ U.af (zg2 U.string) m1];refine hk _ _ (h.mapSet (m2.del q) λk=>?_);rw[zod m2,m3];by_cases c:k=q
 ·rw[if_pos c,if_pos c];rfl
 ·rw[if_neg c,if_neg c]
theorem zbV{l:Str}(h:PT w0 F0 w B p s mb rep se)(hl:l.length<=100000)(hk:∀w',PT w0 F0 w' B p s mb rep se->K (tup [optP (s.g (norm l)),if(s.g (norm l)).isSome=true then .nilIface else er (se G.ab)]) w'):Cl P Fn.aj #[pt p 0,S l] w K:=by
 apply zcl;unfold zbo;rw[C.ae];refine zaR (by omega) λw1 B1=>?_;have h1:=h.old B1;rw[C.ab];refine zaF h1.pf ?_;rw[h1.pf.look,zar,zaq];cases e:s.g (norm l)with
 |some d=>have:=hk w1 h1;rw[e]at this;simp(disch:=first|omega|(simp(disch:=first|omega|fail)only[go_sem]<;>omega)|fail)only[go_sem];exact this
 |none=>have:=hk w1.drew (h1.old (Below.refl _ _).drew);rw[e]at this;have sn:=(h1.old (Below.refl _ _).drew).sn;obtain⟨q,t,e1⟩:=sn.at_ G.ab (by simp[sents]);simp(disch:=first|omega|(simp(disch:=first|omega|fail)only[go_sem,e1,Option.isSome_none]<;>omega)|fail)only[go_sem,e1,Option.isSome_none];exact this
theorem qC_one{n:PM.Nd}{d:Nat}(h:PF w B p s mb rep)(hd:s.nd d=some n):(rep d).v.oneCell'=true:=(h.node d n hd).one
theorem zcz{d:Nat}{n:PM.Nd}(h:PF w B p s mb rep)(hd:s.nd d=some n)(hk:K (S n.n.name) w):Cl P Fn.ah #[pt d 0] w K:=by apply zfO;unfold zdg;obtain⟨u,g,hb⟩:=(h.node d n hd).bd;simp(disch:=first|omega|(simp(disch:=first|omega|fail)only[go_sem,hb]<;>omega)|fail)only[go_sem,hb];exact hk
theorem zdC{d:Nat}{n:PM.Nd}(h:PT w0 F0 w B p s mb rep se)(hd:s.nd d=some n)(hl:n.n.name.length<=90000)(hk:∀w',PT w0 F0 w' B p s mb rep se->K (optP (s.g (norm (Pa.clean (SM.dirP n.n.name))))) w'):Cl P Fn.ar #[pt p 0,pt d 0] w K:=by
 apply zf5;unfold zcB;rw[C.aq];refine zcz h.pf hd ?_;rw[C.a7];refine zhl (by omega) ?_;rw[zar,zaq,C.aD];have e:zeC n.n.name=SM.dirP n.n.name:=rfl;have hdl:(zeC n.n.name).length<=n.n.name.length:=by
  unfold zeC;split
  ·rw[List.length_take];omega
  ·simp
 have h0:=h.old (Below.refl _ w).drew;refine zg4 (by omega) λw1 B1=>?_;have h1:=h0.old B1;rw[<-e]at hk;have cl:=Pa.clean_length_le_succ (zeC n.n.name);rw[C.af];refine zbV h1 (by omega) λw2 h2=>?_;rw[zar,zaq];have hk2:=hk w2 h2;cases e:s.g (norm (Pa.clean (zeC n.n.name)))with
 |some x=>
  rw[e]at hk2;refine zaa (λt w'=>w'=w2) ?_ ?_
  ·rintro t e w3 rfl;exact hk2
  ·simp only[Option.isSome_some,if_true];rw[zdc Tryz.underlying116];simp(disch:=first|omega|(simp(disch:=first|omega|fail)only[go_sem]<;>omega)|fail)only[go_sem]
 |none=>rw[e]at hk2;refine zaa (λ_ _=>False) (λ_ _ _ h=>h.elim) ?_;simp only[Option.isSome_none,Bool.false_eq_true,if_false];rw[zje Tryz.underlying116];simp(disch:=first|omega|(simp(disch:=first|omega|fail)only[go_sem]<;>omega)|fail)only[go_sem];exact hk2
theorem zmo{l:Str}(h:PT w0 F0 w B p s mb rep se)(hk:∀d w',s.nd d=none->PT w0 F0 w' B p (s.setNd d ⟨⟨false,268435456,[],0,l⟩,none⟩) mb (λk=>if k=d then⟨.slice none 0 0,0⟩else rep k) se->K (pt d 0) w'):Cl P Fn.cP #[S l] w K:=by
 apply zhP;unfold ze7;simp(disch:=first|omega|(simp(disch:=first|omega|fail)only[go_sem]<;>omega)|fail)only[go_sem];have b1:bk (w.alloc (CB [S l,.slice none 0 0,.map none,.bool false,.int .u32 268435456,.int .i64 0,.int .i64 0,.int .i64 0] T.ak)) w.heap.size=some (CB [S l,.slice none 0 0,.map none,.bool false,.int .u32 268435456,.int .i64 0,.int .i64 0,.int .i64 0] T.ak):=zaf _ _ _ rfl;have B1:Below w.heap.size w (w.alloc (CB [S l,.slice none 0 0,.map none,.bool false,.int .u32 268435456,.int .i64 0,.int .i64 0,.int .i64 0] T.ak)):=by repeat (first|exact Below.refl _ _|assumption|refine zag ?_ (by first|omega|(simp only[go_sem]<;>omega)) _|refine Below.alloc ?_ (by first|omega|(simp only[go_sem]<;>omega)) _|refine Below.drew ?_)
 refine hk _ _ (h.pf.fresh (Nat.le_refl _)).1 (h.new B1 (Nat.le_refl _) (n:=⟨⟨false,268435456,[],0,l⟩,none⟩) (r:=⟨.slice none 0 0,0⟩) ⟨h.pf.le,⟨0,0,b1⟩,zfC _ _ _ _,λk hk=>(by cases hk)⟩ rfl λhk=>(by cases hk))
theorem zeI{l:Str}(h:PT w0 F0 w B p s mb rep se)(hk:∀d r w',s.nd d=none->PT w0 F0 w' B p (s.setNd d ⟨⟨true,0,[],0,l⟩,some λ_=>none⟩) mb (λk=>if k=d then r else rep k) se->K (pt d 0) w'):Cl P Fn.bP #[S l] w K:=by
 apply zmu;unfold ziO;rw[znh (emb:=emS)];simp(disch:=first|omega|(simp(disch:=first|omega|fail)only[go_sem]<;>omega)|fail)only[go_sem];obtain⟨wa,ea⟩:∃wa,wa=w.alloc (MO emS [] 0):=⟨_,rfl⟩;have za:wa.heap.size=w.heap.size+1:=by rw[ea];simp only[go_sem]
 have ba:bk wa w.heap.size=some (MO emS [] 0):=by rw[ea];exact zaf _ _ _ rfl
 have Ba:Below w.heap.size w wa:=by rw[ea];repeat (first|exact Below.refl _ _|assumption|refine zag ?_ (by first|omega|(simp only[go_sem]<;>omega)) _|refine Below.alloc ?_ (by first|omega|(simp only[go_sem]<;>omega)) _|refine Below.drew ?_)
 rw[<-ea];obtain⟨wb,eb⟩:∃wb,wb=wa.alloc (CB [S l,.slice none 0 0,.map (some w.heap.size),.bool true,.int .u32 0,.int .i64 0,.int .i64 0,.int .i64 0] T.ak):=⟨_,rfl⟩;have bb:bk wb wa.heap.size=some (CB [S l,.slice none 0 0,.map (some w.heap.size),.bool true,.int .u32 0,.int .i64 0,.int .i64 0,.int .i64 0] T.ak):=by rw[eb];exact zaf _ _ _ rfl
 have Bb:Below wa.heap.size wa wb:=by rw[eb];repeat (first|exact Below.refl _ _|assumption|refine zag ?_ (by first|omega|(simp only[go_sem]<;>omega)) _|refine Below.alloc ?_ (by first|omega|(simp only[go_sem]<;>omega)) _|refine Below.drew ?_)
 have ba':=(zax Bb (zaj ba)).trans ba;have hle:=h.pf.le;have hk:=hk wa.heap.size ⟨.slice none 0 0,w.heap.size⟩ wb (h.pf.fresh (by omega)).1 (h.new (Ba.trans (Bb.mono (by omega))) (by omega) (n:=⟨⟨true,0,[],0,l⟩,some λ_=>none⟩) (r:=⟨.slice none 0 0,w.heap.size⟩) ⟨by omega,⟨0,0,bb⟩,zfC _ _ _ _,λk hk=>⟨hle,[],0,ba',MWF.nil 0,λq=>by injection hk with hk;rw[<-hk];rfl⟩⟩ rfl λ_=>Nat.le_refl _);rw[<-eb];rw[za]at hk;exact hk
theorem zeR{d:Nat}{n:PM.Nd}{m:Int}(h:PT w0 F0 w B p s mb rep se)(hd:s.nd d=some n)(hk:∀w',PT w0 F0 w' B p (s.setNd d ⟨{n.n with mode:=m},n.kids⟩) mb rep se->K (tup []) w'):Cl P Fn.bZ #[pt d 0,.int .u32 m] w K:=by apply znq;unfold zkp;obtain⟨u,g,hb⟩:=(h.pf.node d n hd).bd;simp(disch:=first|omega|(simp(disch:=first|omega|fail)only[go_sem,hb]<;>omega)|fail)only[go_sem,hb];exact hk _ (h.nodeSet (n':=⟨{n.n with mode:=m},n.kids⟩) (u:=u) (g:=g) hd rfl rfl)
theorem ziM{d:Nat}{n:PM.Nd}{l:Str}(h:PT w0 F0 w B p s mb rep se)(hd:s.nd d=some n)(hk:∀w',PT w0 F0 w' B p (s.setNd d ⟨{n.n with name:=l},n.kids⟩) mb rep se->K (tup []) w'):Cl P Fn.aD #[pt d 0,S l] w K:=by apply zjq;unfold zfn;obtain⟨u,g,hb⟩:=(h.pf.node d n hd).bd;simp(disch:=first|omega|(simp(disch:=first|omega|fail)only[go_sem,hb]<;>omega)|fail)only[go_sem,hb];exact hk _ (h.nodeSet (n':=⟨{n.n with name:=l},n.kids⟩) (u:=u) (g:=g) hd rfl rfl)
theorem ziW{d:Nat}{n:PM.Nd}{k:Str->Option Nat}(h:PF w B p s mb rep)(hd:s.nd d=some n)(hkk:n.kids=some k)(hk:K (tup []) w):Cl P Fn.cf #[pt d 0] w K:=by
 apply zj4;unfold zfI;obtain⟨u,g,hb⟩:=(h.node d n hd).bd;have e:mdV n.kids (rep d).kb=.map (some (rep d).kb):=by rw[hkk];rfl
 simp only[qC,e]at hb;simp(disch:=first|omega|(simp(disch:=first|omega|fail)only[go_sem,hb]<;>omega)|fail)only[go_sem,hb];rw[oEqlM U.ay];simp(disch:=first|omega|(simp(disch:=first|omega|fail)only[go_sem,Option.isNone_some]<;>omega)|fail)only[go_sem,Option.isNone_some];exact hk
theorem zkN{d f:Nat}{n nf:PM.Nd}{k:Str->Option Nat}(h:PT w0 F0 w B p s mb rep se)(hd:s.nd d=some n)(hkk:n.kids=some k)(hf:s.nd f=some nf)(hk:∀w',PT w0 F0 w' B p (s.setNd d ⟨n.n,some (zb9 k nf.n.name (some f))⟩) mb rep se->K (tup []) w'):Cl P Fn.cE #[pt d 0,pt f 0] w K:=by
 apply zkI;unfold zhb;obtain⟨u,g,hb⟩:=(h.pf.node d n hd).bd;obtain⟨u',g',hb'⟩:=(h.pf.node f nf hf).bd;have e:mdV n.kids (rep d).kb=.map (some (rep d).kb):=by rw[hkk];rfl
 simp only[qC,e]at hb;obtain⟨q1,M,c,q2,q3,q4⟩:=(h.pf.node d n hd).kid k hkk;simp(disch:=first|omega|(simp(disch:=first|omega|fail)only[go_sem,hb]<;>omega)|fail)only[go_sem,hb];apply zlp;unfold zh2;simp(disch:=first|omega|(simp(disch:=first|omega|fail)only[go_sem,hb']<;>omega)|fail)only[go_sem,hb'];rw[zlv _ U.ay (zg2 U.string) q2];refine hk _ (h.kidSet hd (by rw[hkk];rfl) (q3.put _ _) λq=>?_);rw[zjc,q4];unfold zb9;by_cases c:q=nf.n.name
 ·rw[if_pos c,if_pos c];rfl
 ·rw[if_neg c,if_neg c]
theorem zmc{d f:Nat}{n nf:PM.Nd}{k:Str->Option Nat}(h:PT w0 F0 w B p s mb rep se)(hd:s.nd d=some n)(hkk:n.kids=some k)(hf:s.nd f=some nf)(hk:∀w',PT w0 F0 w' B p (s.setNd d ⟨n.n,some (zb9 k nf.n.name none)⟩) mb rep se->K (tup []) w'):Cl P Fn.bt #[pt d 0,pt f 0] w K:=by
 apply zih;unfold zeh;obtain⟨u,g,hb⟩:=(h.pf.node d n hd).bd;obtain⟨u',g',hb'⟩:=(h.pf.node f nf hf).bd;have e:mdV n.kids (rep d).kb=.map (some (rep d).kb):=by rw[hkk];rfl
 simp only[qC,e]at hb;obtain⟨q1,M,c,q2,q3,q4⟩:=(h.pf.node d n hd).kid k hkk;simp(disch:=first|omega|(simp(disch:=first|omega|fail)only[go_sem,hb]<;>omega)|fail)only[go_sem,hb];apply zjW;unfold zfL;simp(disch:=first|omega|(simp(disch:=first|omega|fail)only[go_sem,hb']<;>omega)|fail)only[go_sem,hb'];rw[zn9 _ U.ay (zg2 U.string) q2];refine hk _ (h.kidSet hd (by rw[hkk];rfl) (q3.del _) λq=>?_);rw[zod q3,q4];unfold zb9;by_cases c:q=nf.n.name
 ·rw[if_pos c,if_pos c];rfl
 ·rw[if_neg c,if_neg c]
end
theorem zqc(s:PM.St)(d:Nat)(a b:PM.Nd):(s.setNd d a).setNd d b=s.setNd d b:=by
 unfold St.setNd;simp only
 congr 1;funext k;by_cases c:k=d
 ·simp[c]
 ·simp[c]
def dirM(pv:Int):Int:=((2147483648|||pv.toNat:Nat):Int)
section
variable{w w' w0:World}{F0:Fp}{K:Value->World->Prop}{B p mb:Nat}{s:PM.St}{rep:Nat->Rep}{se:Nat->Nat×Nat}
 {m:SM.Mem} {ps:List Nat} {hp:Int->Nat} {E:PM.Ex} {X:Option Str}
theorem znG(d:Nat)(L:Value->Prop):pu P (oBin .eql T.af false true (optP (some d)) (.pointer none)) L=L (.bool false):=by unfold optP;rw[zqw U.ag];rfl
theorem zrU(L:Value->Prop):pu P (oBin .eql T.af false true (optP none) (.pointer none)) L=L (.bool true):=by unfold optP;rw[zqw U.ag];rfl
theorem zns{pv:Int}(hpv:0<=pv/\pv<=4294967295)(hpm:orI 2147483648 pv=dirM pv):∀(k:Nat){w:World}{s:PM.St}{rep:Nat->Rep}{ps:List Nat}{l:Str}{f:Nat}{n:SM.Node}{E:PM.Ex}{K:Value->World->Prop},l.length<=k->PT w0 F0 w B p s mb rep se->PM.Rel s m ps hp ((l,f,n)::E) X->SM.Kept l->l≠[47]->l.length<=900->m.clear l=true->m.isDir l=false->(∀q,X=some q->(m.find q).isSome=true/\q≠l)->(∀e∈E,l.length<e.1.length/\e.1≠[47])->
  (∀w' s' rep' ps',PT w0 F0 w' B p s' mb rep' se->PM.Rel s' ((m.parents l pv).add l n) ps' hp E X->(s'.hs=s.hs/\∃t,ps'=ps++t)->pt' ps' (m.parents l pv).nodes.length=f->K (tup []) w')->
  Cl P Fn.ae #[pt p 0,pt f 0,.int .u32 pv] w K:=by
 intro k
 induction k with
 |zero=>intro w s rep ps l f n E K hk0 h r hk;exact absurd (List.length_eq_zero_iff.1 (by omega)) (SM.zb5 hk)
 |succ k ih=>
  intro w s rep ps l f n E K hk0 h r hk hl h900 hc hn hX hE hK;apply za4;unfold zaS;have hf:s.nd f=some ⟨{n with name:=l},kz n.dir⟩:=(r.ex (l,f,n) (by simp)).1;obtain⟨c1,c2⟩:=SM.zdt hc hl;have hkp:=SM.zdj hk;have hkd:=SM.zky hk;have hpl:SM.parent l≠l:=λe=>by
   rcases SM.zaZ l with q|q
   ·rw[e]at q;omega
   ·exact hl (by rw[<-e];exact q)
  have hpE:SM.parent l∉((l,f,n)::E).map (·.1):=by
   simp only[List.map_cons,List.mem_cons,not_or];refine⟨hpl,λhm=>?_⟩;obtain⟨e,he,e1⟩:=List.mem_map.1 hm;obtain⟨q1,q2⟩:=hE e he;rcases SM.zaZ l with q|q
   ·rw[e1]at q1;omega
   ·exact q2 (e1.trans q)
  have gp:=r.g (SM.parent l);rw[zpz hpE,Option.none_or]at gp;obtain⟨p1,p2,p3,p4⟩:=r.mi.parents pv (k+1) l hk0 hk hl hc;refine zaa (λt w'=>w'=w) ?_ ?_;rotate_left
  ·rw[zqw U.ag];simp(disch:=first|omega|(simp(disch:=first|omega|fail)only[go_sem,Option.isNone_some]<;>omega)|fail)only[go_sem,Option.isNone_some]
  rintro t e w1 rfl;rw[C.ai];refine zdC h hf (by show l.length<=_;omega) λw2 h2=>?_;rw[show({n with name:=l}:SM.Node).name=l from rfl,hkd];refine zaa (λt w'=>∃s1 rep1 ps1 x,t=[pt (pt' ps1 x) 0]/\PT w0 F0 w' B p s1 mb rep1 se/\PM.Rel s1 (m.parents l pv) ps1 hp ((l,f,n)::E) X/\(m.parents l pv).find (SM.parent l)=some x/\s1.hs=s.hs/\∃t,ps1=ps++t) ?_ ?_
  ·rintro t e w3 ⟨s1,rep1,ps1,x,rfl,h3,r3,hx,hhs⟩;have hdx:((m.parents l pv).node x).dir=true:=by obtain⟨y,e1,e2⟩:=SM.zb6 p2;rw[hx]at e1;injection e1 with e1;rw[e1];exact e2
   have hXl:X≠some l:=λe=>(hX l e).2 rfl;obtain⟨kk,k1,r4⟩:=r3.here hXl hk hl hx hdx (p3 l hn (Nat.le_refl _));have hf3:s1.nd f=some ⟨{n with name:=l},kz n.dir⟩:=(r3.ex (l,f,n) (by simp)).1;rw[gs0,C.ao];refine ziW h3.pf k1 rfl ?_;rw[C.aw];refine zkN h3 k1 rfl hf3 λw4 h4=>?_;exact hK w4 _ _ _ h4 r4 ⟨hhs.1,by obtain⟨t,e⟩:=hhs.2;exact⟨t++[f],by rw[e];simp⟩⟩ (by rw[<-r3.len];exact zsD _ _)
  ·cases hfp:m.find (SM.parent l)with
   |some x=>rw[hfp]at gp;rw[gp];simp only[Option.map_some];rw[znG];simp(disch:=first|omega|(simp(disch:=first|omega|fail)only[go_sem]<;>omega)|fail)only[go_sem];rw[SM.zbN hfp];exact⟨s,rep,ps,x,rfl,h2,r,hfp,rfl,[],by simp⟩
   |none=>
    rw[hfp]at gp;rw[gp];simp only[Option.map_none];rw[zrU];have hp47:SM.parent l≠[47]:=λq=>by have:=r.mi.root;rw[<-q,hfp]at this;cases this
    have hlt:=(SM.zaZ l).resolve_right hp47;rw[cd_t,C.aq];refine zcz h2.pf hf ?_;rw[C.aD];refine zg4 (by show l.length<=_;omega) λw3 B3=>?_;have h3:=h2.old B3;rw[show({n with name:=l}:SM.Node).name=l from rfl,(SM.zc8 hk).2,C.bX];refine zqh (by omega) λw4 B4=>?_;have h4:=h3.old B4;have hpdl:(Pa.clean (SM.dirP l)).length<=1000:=by
     have:=Pa.clean_length_le_succ (SM.dirP l);have hd:(SM.dirP l).length<=l.length:=by
      unfold SM.dirP;split
      ·rw[List.length_take];omega
      ·simp
     omega
    generalize hpd:Pa.clean (SM.dirP l)=pd at*;rw[C.am];apply zb7;unfold zbi;rw[C.ae];refine zaR (by omega) λw5 B5=>?_;have h5:=h4.old B5;rw[hkd,C.ab];refine zaF h5.pf ?_;rw[h5.pf.look,gp];rw[zar,zaq];refine zaa (λt w'=>∃s1 rep1 ps1,PT w0 F0 w' B p s1 mb rep1 se/\PM.Rel s1 (m.parents l pv) ps1 hp ((l,f,n)::E) X/\s1.hs=s.hs/\∃t,ps1=ps++t) ?_ ?_
    ·rintro t e w6 ⟨s1,rep1,ps1,h6,r6,hhs⟩;refine zaa (λt w'=>w'=w6) ?_ ?_
     ·rintro t e w7 rfl;rw[C.af];refine zbV h6 (by omega) λw8 h8=>?_;rw[hkd];obtain⟨x,e1,e2⟩:=SM.zb6 p2;have g8:=r6.g (SM.parent l);rw[zpz hpE,Option.none_or,e1]at g8;simp only[Option.map_some]at g8;rw[g8,zar,zaq];simp only[Option.isSome_some,if_true];rw[zdc Tryz.underlying116];simp(disch:=first|omega|(simp(disch:=first|omega|fail)only[go_sem]<;>omega)|fail)only[go_sem];exact⟨s1,rep1,ps1,x,rfl,h8,r6,e1,hhs⟩
     ·rw[show tup [Value.nilIface]=Value.nilIface from rfl,zdc Tryz.underlying116];simp(disch:=first|omega|(simp(disch:=first|omega|fail)only[go_sem]<;>omega)|fail)only[go_sem]
    ·simp(disch:=first|omega|(simp(disch:=first|omega|fail)only[go_sem,Option.map_none,Option.isSome_none]<;>omega)|fail)only[go_sem,Option.map_none,Option.isSome_none];refine zeI h5 λd rd w6 hd0 h6=>?_;have eM:((2147483648:Int).toNat|||pv.toNat:Nat)=(2147483648|||pv.toNat):=rfl;refine zeR h6 (n:=⟨⟨true,0,[],0,SM.parent l⟩,some λ_=>none⟩) (by simp[St.setNd]) λw7 h7=>?_;rw[zqc]at h7;refine zaF h7.pf ?_;refine h7.put (SM.parent l) d λw8 h8=>?_;have nE:SM.parent l∉((l,f,n)::E).map (·.1):=hpE;have r8:=r.push (l:=SM.parent l) ⟨true,orI 2147483648 pv,[],0,[]⟩ hd0 nE;have e8:(⟨{(⟨true,orI 2147483648 pv,[],0,[]⟩:SM.Node)with name:=SM.parent l},kz true⟩:PM.Nd)=⟨⟨true,dirM pv,[],0,SM.parent l⟩,some λ_=>none⟩:=by rw[hpm];rfl
     simp only at r8;rw[show kz true=some λ_=>none from rfl]at e8 r8;rw[hpm]at r8;refine ih (E:=(l,f,n)::E) (by omega) h8 r8 hkp hp47 (by omega) c2 (by unfold SM.Mem.isDir;rw[hfp]) (λq hq=>⟨(hX q hq).1,λe=>by have:=(hX q hq).1;rw[e,hfp]at this;cases this⟩) (λe he=>?_) λw9 s9 rep9 ps9 h9 r9 hhs _=>?_
     ·rcases List.mem_cons.1 he with rfl|he
      ·exact⟨hlt,hl⟩
      ·obtain⟨q1,q2⟩:=hE e he;exact⟨by omega,q2⟩
     ·refine⟨s9,rep9,ps9,h9,?_,hhs⟩;rw[SM.zeG r.mi.root hfp,hpm];exact r9
end
end Go.Proofs.YtdljebgllipdjaaGreatDoor.X
end
section
namespace Go.Proofs.YtdljebgllipdjaaGreatDoor.X
open Go Go.X Go.Proofs Go.RowKit
section
variable{w W:World}{K:Value->World->Prop}{B p:Nat}{m:SM.Mem}{F:Fp}{vn va vd:Value}{q:Nat}{ds:List Value}{hl:ML Int}{c:Nat}{hb:Int->Nat}{ρ:Nat->Rl}{k:Int}{hd:SM.Hnd}{s:SM.Stp}{v:Value}
theorem zmg{m:SM.Mem}(mb:MB m)(d:Str):(m.children d).length<=999990000/\∀x∈m.children d,x.length<=1000000000:=by unfold SM.Mem.children;exact⟨Nat.le_trans (List.length_filter_le _ _) mb.nn,λx hx=>mb.nl x (List.mem_filter.1 hx).1⟩
set_option maxHeartbeats 1000000 in
theorem zsm(h:MemX w B p m F vn va vd q ds hl c hb ρ)(hv:v.oneCell'=true)(hh:SM.hget m.hs k=some hd)(fb:FB m hd s)(h0:0<=hd.listed)(mb:MB m)(hk:zcx w B p F (m.listS k hd s) K):Cl P Fn.cU #[pt p 0,pt (hb k) 0,AG (zaC s v)] w K:=by
 apply zmm;unfold ziH;obtain⟨W,eW,BW,zW,bS,bA⟩:=zjT w s v;rw[zcJ,M.ab,eW];have f:Fc w W B p m F vn va vd q ds hl c hb ρ s v:=⟨h.old BW,h.lt,Tr.of_below BW F,bS,bA⟩;have hn:=fb.node;have bm:=f.h.bm;have bh:=(f.h.bh k hd hh).2;obtain⟨g,cur,na,na1,na2⟩:=f.h.node hn;have ix:=na.ix .i64;have bg:=na.bg;have len:=na.len;have row:=na.row;obtain⟨dat,_⟩:=f.h.data hn;obtain⟨da,dc,ed⟩:=zay dat;rw[ed]at row;have lp:=zaj bm;have lh:=zaj bh;have lg:=zaj bg;simp(disch:=first|omega|(simp(disch:=first|omega|fail)only[go_sem,bm,bh,ix,bg,row]<;>omega)|fail)only[go_sem,bm,bh,ix,bg,row];refine⟨trivial,trivial,trivial,?_⟩;obtain⟨W2,e2⟩:∃W2,W2=setb (W.alloc (CB (zbM ⟨false,0,[],0,[]⟩ (.slice none 0 0)) T.ag)).drew W.heap.size (CB (zbM (m.node hd.node) (.slice da (m.node hd.node).data.length dc)) T.ag):=⟨_,rfl⟩;have B2:Below W.heap.size W W2:=by rw[e2];repeat (first|exact Below.refl _ _|assumption|refine zag ?_ (by first|omega|(simp only[go_sem]<;>omega)) _|refine Below.alloc ?_ (by first|omega|(simp only[go_sem]<;>omega)) _|refine Below.drew ?_)
 have bN:bk W2 W.heap.size=some (CB (zbM (m.node hd.node) (.slice da (m.node hd.node).data.length dc)) T.ag):=by rw[e2];exact zap _ _ _ _ rfl (by simp only[go_sem];omega)
 rw[<-e2];clear e2;have f2:=f.below B2;have bA2:=f2.A;have lA2:=zaj bA2;unfold SM.Mem.listS at hk;simp only at hk;by_cases hdir:(m.node hd.node).dir=true
 ·rw[if_neg (by simp[hdir])]at hk;refine zaa (λt w'=>w'=W2) ?_ ?_
  ·rintro t e w3 rfl;unfold zhm;simp(disch:=first|omega|(simp(disch:=first|omega|fail)only[go_sem,bN]<;>omega)|fail)only[go_sem,bN];refine zhF f2.h.toS (by have:=mb.nn;omega) (λx hx=>Nat.le_trans (mb.nl x hx) (by omega)) λw4 v4 o4 B4=>?_;have f4:=f2.below B4;have bh4:=(f4.h.bh k hd hh).2;have bS4:=f4.S;obtain⟨cb1,cb2⟩:=zmg mb (m.node hd.node).name;generalize m.children (m.node hd.node).name=l0 at*;have hv4:VS S w4 v4 l0:=VS.own o4;have b4:∀b,v4.ownBlock=some b->w.heap.size+1<b:=λb hb2=>by have:=(zaW o4 b hb2).1;have:=f2.lA;omega
   obtain⟨a4,c4,e4⟩:=zan o4;obtain⟨x,hx⟩:=Int.eq_ofNat_of_zero_le (show 0<=min hd.listed (l0.length:Int) by omega);rw[hx]at hk;rw[Int.toNat_natCast]at hk;obtain⟨v5,hv5,u5,s5⟩:=hv4.lo U.ae (by kernel_rfl) (p:=x) (by omega);subst e4;simp(disch:=first|omega|(simp(disch:=first|omega|fail)only[go_sem,bh4,hx,s5]<;>omega)|fail)only[go_sem,bh4,hx,s5];have l1len:(l0.drop x).length<=999990000:=by simp;omega
   have l1m:∀y∈l0.drop x,y.length<=1000000000:=λy hy=>cb2 y (List.mem_of_mem_drop hy);generalize l0.drop x=l1 at*;obtain⟨a5,c5,e5⟩:=hv5.slice;refine zaa (λt w'=>w'=w4/\∃v6,t=[v6,.int .i64 (if 0<s.n/\l1=[]then 4 else 0)]/\VS S w4 v6 (if 0<s.n then l1.take (min s.n l1.length).toNat else l1)/\∀b,v6.ownBlock=some b->w.heap.size+1<b) ?_ ?_
   ·rintro t e w6 ⟨rfl,v6,rfl,hv6,u6⟩;refine zqG f4 hh fb mb hv6 u6 ?_ ?_ e hk
    ·split
     ·simp;omega
     ·exact l1len
    ·intro y hy;split at hy
     ·exact l1m y (List.mem_of_mem_take hy)
     ·exact l1m y hy
   ·by_cases hsn:0<s.n
    ·simp only[if_pos hsn,hsn,true_and];simp(disch:=first|omega|(simp(disch:=first|omega|fail)only[go_sem,bS4]<;>omega)|fail)only[go_sem,bS4];unfold zhn;refine zaa (λt w'=>w'=w4/\t=[.int .i64 (if l1=[]then 4 else 0)]) ?_ ?_
     ·rintro t e w6 ⟨rfl,rfl⟩;unfold zhf;obtain⟨y,hy⟩:=Int.eq_ofNat_of_zero_le (show 0<=min s.n (l1.length:Int) by omega);obtain⟨v7,hv7,u7,s7⟩:=hv5.hi U.ae (by kernel_rfl) (q:=y) (by omega);subst e5;simp(disch:=first|omega|(simp(disch:=first|omega|fail)only[go_sem,bS4,hy,s7]<;>omega)|fail)only[go_sem,bS4,hy,s7];exact⟨trivial,v7,rfl,by simpa using hv7,λb hb2=>b4 b (u5 b (u7 b hb2))⟩
     ·subst e5;by_cases hl0:l1=[]
      ·have:(l1.length:Int)=0:=by rw[hl0];rfl
       simp(disch:=first|omega|(simp(disch:=first|omega|fail)only[go_sem,this,hl0,decide_true]<;>omega)|fail)only[go_sem,this,hl0,decide_true];exact⟨trivial,rfl⟩
      ·have h9:l1.length≠0:=λe=>hl0 (List.length_eq_zero_iff.1 e);have:¬(l1.length:Int)=0:=by omega
       simp(disch:=first|omega|(simp(disch:=first|omega|fail)only[go_sem,hl0]<;>omega)|fail)only[go_sem,hl0];exact⟨trivial,by simp⟩
    ·simp only[if_neg hsn,hsn,false_and,if_false];simp(disch:=first|omega|(simp(disch:=first|omega|fail)only[go_sem,bS4]<;>omega)|fail)only[go_sem,bS4];exact⟨trivial,v5,rfl,hv5,λb hb2=>b4 b (u5 b hb2)⟩
  ·simp(disch:=first|omega|(simp(disch:=first|omega|fail)only[go_sem,bN,hdir]<;>omega)|fail)only[go_sem,bN,hdir]
 ·have hdir':(m.node hd.node).dir=false:=by simpa using hdir
  rw[if_pos hdir']at hk;refine zaa (λ_ _=>False) (λ_ _ _ h=>h.elim) ?_;simp(disch:=first|omega|(simp(disch:=first|omega|fail)only[go_sem,bN,hdir',bA2]<;>omega)|fail)only[go_sem,bN,hdir',bA2];exact zfD f2 f2.h.toS f2.tr hk
set_option maxHeartbeats 8000000 in
theorem J9_spec(f:Fc w W B p m F vn va vd q ds hl c hb ρ s v)(hh:SM.hget m.hs k=some hd)(fb:FB m hd s)(hv:BS W v s.data)(hop:s.op=14\/s.op=15\/s.op=17){g:Nat}{cur:List Value}(na:zcP W vd m hd.node (ds[hd.node]'(by rw[f.h.dl];exact fb.node)) g cur)(t:List Value)(u:Env)
  (hk:zcx w B p F (if s.op=17/\s.off<0 then(m,SM.Ans.err 7)
   else if s.op=14/\(hd.pos<0\/1048576<hd.pos)\/s.op≠14/\(s.off<0\/1048576<s.off)then(m,SM.Ans.err 13)
   else if s.op=17 then(m.setNode hd.node {m.node hd.node with data:=SM.grown ((m.node hd.node).data.take (min ((m.node hd.node).data.length:Int) s.off).toNat) s.off,time:=0},SM.Ans.z)
   else if s.op=14 then
    ((m.setNode hd.node {m.node hd.node with data:=SM.over (m.node hd.node).data hd.pos s.data,time:=0}).setH k {hd with pos:=hd.pos+s.data.length},⟨0,s.data.length,0,[],[],[]⟩)
   else((m.setNode hd.node {m.node hd.node with data:=SM.over (m.node hd.node).data s.off s.data,time:=0}).setH k {hd with pos:=s.off+s.data.length},⟨0,s.data.length,0,[],[],[]⟩)) K):
  zet (pt w.heap.size 0) (pt (w.heap.size+1) 0) K (pt g (hd.node*5)) (pt (hb k) 0) t u W:=by
 unfold zet;have bS:=f.S;have bA:=f.A;have lA:=f.lA;have bh:=(f.h.bh k hd hh).2;by_cases c7:s.op=17/\s.off<0
 ·rw[if_pos c7]at hk;obtain⟨c7a,c7b⟩:=c7;refine zaa (λ_ _=>False) (λ_ _ _ h=>h.elim) ?_;simp(disch:=first|omega|(simp(disch:=first|omega|fail)only[go_sem,bS,bA]<;>omega)|fail)only[go_sem,bS,bA];exact zfD f f.h.toS f.tr hk
 ·rw[if_neg c7]at hk;refine zaa (λt w'=>w'=W) ?_ ?_
  ·rintro t e w1 rfl;unfold zhp;by_cases c13:s.op=14/\(hd.pos<0\/1048576<hd.pos)\/s.op≠14/\(s.off<0\/1048576<s.off)
   ·rw[if_pos c13]at hk;refine zaa (λ_ _=>False) (λ_ _ _ h=>h.elim) ?_;rcases c13 with⟨c1,c2|c2⟩|⟨c1,c2|c2⟩
    ·simp(disch:=first|omega|(simp(disch:=first|omega|fail)only[go_sem,bS,bA,bh]<;>omega)|fail)only[go_sem,bS,bA,bh];exact zfD f f.h.toS f.tr hk
    ·simp(disch:=first|omega|(simp(disch:=first|omega|fail)only[go_sem,bS,bA,bh]<;>omega)|fail)only[go_sem,bS,bA,bh];exact zfD f f.h.toS f.tr hk
    ·simp(disch:=first|omega|(simp(disch:=first|omega|fail)only[go_sem,bS,bA,bh]<;>omega)|fail)only[go_sem,bS,bA,bh];exact zfD f f.h.toS f.tr hk
    ·simp(disch:=first|omega|(simp(disch:=first|omega|fail)only[go_sem,bS,bA,bh]<;>omega)|fail)only[go_sem,bS,bA,bh];exact zfD f f.h.toS f.tr hk
   ·rw[if_neg c13]at hk;refine zaa (λt w'=>w'=w1) ?_ ?_
    ·rintro t e w2 rfl;unfold zhg;by_cases c17:s.op=17
     ·rw[if_pos c17]at hk;refine zaa (λ_ _=>False) (λ_ _ _ h=>h.elim) ?_;simp(disch:=first|omega|(simp(disch:=first|omega|fail)only[go_sem,bS]<;>omega)|fail)only[go_sem,bS];exact J2_spec f fb (by omega) (by omega) na hk
     ·rw[if_neg c17]at hk;refine zaa (λt w'=>∃m' F',MemS w' B p m' F'/\Tr w w' F F'/\bk w' w.heap.size=some (CB (zaC s v) T.ae)/\bk w' (w.heap.size+1)=some (CB ansZ T.ab)/\¬F'.use (w.heap.size+1)/\zcx w B p F (m',⟨0,s.data.length,0,[],[],[]⟩) K) ?_ ?_
      ·rintro t e w3 ⟨m',F',h3,t3,s3,a3,nA,hk'⟩;exact J1_spec h3 t3 s3 a3 nA (zay hv) hk' t e
      ·by_cases c14:s.op=14
       ·rw[if_pos c14]at hk;simp(disch:=first|omega|(simp(disch:=first|omega|fail)only[go_sem,bS]<;>omega)|fail)only[go_sem,bS];unfold zeA;simp(disch:=first|omega|(simp(disch:=first|omega|fail)only[go_sem]<;>omega)|fail)only[go_sem];refine J3_spec f hh fb hv (by omega) (by omega) na λw3 F' h3 t3 s3 a3 nA=>?_;exact⟨_,F',h3,t3,s3,a3,nA,hk⟩
       ·rw[if_neg c14]at hk;have c15:s.op=15:=by omega
        simp(disch:=first|omega|(simp(disch:=first|omega|fail)only[go_sem,bS]<;>omega)|fail)only[go_sem,bS];unfold zeA;simp(disch:=first|omega|(simp(disch:=first|omega|fail)only[go_sem]<;>omega)|fail)only[go_sem];unfold zg6;simp(disch:=first|omega|(simp(disch:=first|omega|fail)only[go_sem]<;>omega)|fail)only[go_sem];refine J4_spec f hh fb hv (by omega) (by omega) na λw3 F' h3 t3 s3 a3 nA=>?_;exact⟨_,F',h3,t3,s3,a3,nA,hk⟩
    ·by_cases c1:s.op=14
     ·simp(disch:=first|omega|(simp(disch:=first|omega|fail)only[go_sem,bS,bh]<;>omega)|fail)only[go_sem,bS,bh]
     ·simp(disch:=first|omega|(simp(disch:=first|omega|fail)only[go_sem,bS,bh]<;>omega)|fail)only[go_sem,bS,bh]
  ·by_cases c1:s.op=17
   ·simp(disch:=first|omega|(simp(disch:=first|omega|fail)only[go_sem,bS]<;>omega)|fail)only[go_sem,bS]
   ·simp(disch:=first|omega|(simp(disch:=first|omega|fail)only[go_sem,bS]<;>omega)|fail)only[go_sem,bS]
theorem zs6(f:Fc w W B p m F vn va vd q ds hl c hb ρ s v)(hh:SM.hget m.hs k=some hd)(fb:FB m hd s)(hv:BS W v s.data)(hop:s.op=12\/s.op=13\/s.op=16\/s.op=14\/s.op=15\/s.op=17){g:Nat}{cur:List Value}(na:zcP W vd m hd.node (ds[hd.node]'(by rw[f.h.dl];exact fb.node)) g cur)(t:List Value)(u:Env)
  (hk:zcx w B p F (m.fileS k hd s) K):zdH (pt w.heap.size 0) (pt (w.heap.size+1) 0) K (pt g (hd.node*5)) (pt (hb k) 0) t u W:=by
 unfold SM.Mem.fileS at hk;simp only at hk;rw[if_neg (by omega),if_neg (by omega),if_neg (by omega),if_neg (by omega),if_neg (by omega)]at hk;unfold zdH;have bS:=f.S;have bA:=f.A;have lA:=f.lA;have bh:=(f.h.bh k hd hh).2;by_cases hcl:hd.cl=true
 ·rw[if_pos hcl]at hk;refine zaa (λ_ _=>False) (λ_ _ _ h=>h.elim) ?_;simp(disch:=first|omega|(simp(disch:=first|omega|fail)only[go_sem,bh,hcl,bA]<;>omega)|fail)only[go_sem,bh,hcl,bA];exact zfD f f.h.toS f.tr hk
 ·rw[if_neg hcl]at hk;have hcl':hd.cl=false:=by simpa using hcl
  refine zaa (λt w'=>w'=W) ?_ ?_
  ·rintro t e w1 rfl;unfold zgn;by_cases c12:s.op=12
   ·rw[if_pos c12]at hk;refine zaa (λ_ _=>False) (λ_ _ _ h=>h.elim) ?_;simp(disch:=first|omega|(simp(disch:=first|omega|fail)only[go_sem,bS]<;>omega)|fail)only[go_sem,bS];exact zs9 f hh fb (by omega) na hk
   ·rw[if_neg c12]at hk;by_cases c13:s.op=13
    ·rw[if_pos c13]at hk;refine zaa (λ_ _=>False) (λ_ _ _ h=>h.elim) ?_;simp(disch:=first|omega|(simp(disch:=first|omega|fail)only[go_sem,bS]<;>omega)|fail)only[go_sem,bS];unfold zcv;simp(disch:=first|omega|(simp(disch:=first|omega|fail)only[go_sem]<;>omega)|fail)only[go_sem];exact ztl f hh fb (by omega) na hk
    ·rw[if_neg c13]at hk;by_cases c16:s.op=16
     ·rw[if_pos c16]at hk;refine zaa (λ_ _=>False) (λ_ _ _ h=>h.elim) ?_;simp(disch:=first|omega|(simp(disch:=first|omega|fail)only[go_sem,bS]<;>omega)|fail)only[go_sem,bS];unfold zcv;simp(disch:=first|omega|(simp(disch:=first|omega|fail)only[go_sem]<;>omega)|fail)only[go_sem];unfold zd1;simp(disch:=first|omega|(simp(disch:=first|omega|fail)only[go_sem]<;>omega)|fail)only[go_sem];exact zta f hh fb (by omega) na hk
     ·rw[if_neg c16]at hk;refine zaa (λt w'=>w'=w1) ?_ ?_
      ·rintro t e w2 rfl;unfold zgo;by_cases hro:hd.ro=true
       ·rw[if_pos hro]at hk;refine zaa (λ_ _=>False) (λ_ _ _ h=>h.elim) ?_;simp(disch:=first|omega|(simp(disch:=first|omega|fail)only[go_sem,bh,hro]<;>omega)|fail)only[go_sem,bh,hro];exact zs4 f hh hk
       ·rw[if_neg hro]at hk;have hro':hd.ro=false:=by simpa using hro
        refine zaa (λt w'=>w'=w2) ?_ ?_
        ·rintro t e w3 rfl;refine J9_spec f hh fb hv (by omega) na t e ?_;by_cases q1:s.op=17/\s.off<0
         ·rw[if_pos q1]at hk⊢;exact hk
         rw[if_neg q1]at hk⊢;by_cases q2:s.op=14/\(hd.pos<0\/1048576<hd.pos)\/s.op≠14/\(s.off<0\/1048576<s.off)
         ·rw[if_pos q2]at hk⊢;exact hk
         rw[if_neg q2]at hk⊢;by_cases q3:s.op=17
         ·rw[if_pos q3]at hk⊢;exact hk
         rw[if_neg q3]at hk⊢;by_cases q4:s.op=14
         ·rw[if_pos q4]at hk⊢;exact hk
         rw[if_neg q4]at hk⊢;rw[if_pos (by omega)]at hk;exact hk
        ·simp(disch:=first|omega|(simp(disch:=first|omega|fail)only[go_sem,bh,hro']<;>omega)|fail)only[go_sem,bh,hro']
      ·simp(disch:=first|omega|(simp(disch:=first|omega|fail)only[go_sem,bS]<;>omega)|fail)only[go_sem,bS];unfold zcv;simp(disch:=first|omega|(simp(disch:=first|omega|fail)only[go_sem]<;>omega)|fail)only[go_sem];unfold zd1;simp(disch:=first|omega|(simp(disch:=first|omega|fail)only[go_sem]<;>omega)|fail)only[go_sem]
  ·simp(disch:=first|omega|(simp(disch:=first|omega|fail)only[go_sem,bh,hcl']<;>omega)|fail)only[go_sem,bh,hcl']
set_option maxHeartbeats 8000000 in
theorem zsp(h:MemX w B p m F vn va vd q ds hl c hb ρ)(hv:BS w v s.data)(hh:SM.hget m.hs k=some hd)(fb:FB m hd s)(h0:0<=hd.listed)(mb:MB m)(hop:12<=s.op/\s.op<=23)(hk:zcx w B p F (m.fileS k hd s) K):Cl P Fn.cW #[pt p 0,pt (hb k) 0,AG (zaC s v)] w K:=by
 apply zms;unfold ziz;obtain⟨W,eW,BW,zW,bS,bA⟩:=zjT w s v;rw[zcJ,M.ab,eW];have f0:Fc w W B p m F vn va vd q ds hl c hb ρ s v:=⟨h.old BW,h.lt,Tr.of_below BW F,bS,bA⟩;have hn:=fb.node;have bm:=f0.h.bm;have bh:=(f0.h.bh k hd hh).2;obtain⟨g,cur,na0,na1,na2⟩:=f0.h.node hn;have ix:=na0.ix .i64;have na:zcP W.drew vd m hd.node (ds[hd.node]'(by rw[f0.drew.h.dl];exact fb.node)) g cur:=⟨na0.ob,na0.bg,na0.len,na0.ix,na0.row,na0.c0,na0.c1,na0.c2,na0.c3,na0.c4⟩;have f:=f0.drew;have hvW:BS W.drew v s.data:=zcs hv (BW.trans (by repeat (first|exact Below.refl _ _|assumption|refine zag ?_ (by first|omega|(simp only[go_sem]<;>omega)) _|refine Below.alloc ?_ (by first|omega|(simp only[go_sem]<;>omega)) _|refine Below.drew ?_))) (Nat.le_refl _);have hv1:=ze0 hv;have lA:=f.lA;have bA':=f.A;simp(disch:=first|omega|(simp(disch:=first|omega|fail)only[go_sem,bm,bh,ix]<;>omega)|fail)only[go_sem,bm,bh,ix];have hk0:=hk;unfold SM.Mem.fileS at hk;simp only at hk;by_cases c18:s.op=18
 ·rw[if_pos c18]at hk;refine zaa (λ_ _=>False) (λ_ _ _ h=>h.elim) ?_;simp(disch:=first|omega|(simp(disch:=first|omega|fail)only[go_sem,bS]<;>omega)|fail)only[go_sem,bS];exact zs2 f hh hn na hk
 rw[if_neg c18]at hk;by_cases c21:s.op=21
 ·rw[if_pos c21]at hk;refine zaa (λ_ _=>False) (λ_ _ _ h=>h.elim) ?_;simp(disch:=first|omega|(simp(disch:=first|omega|fail)only[go_sem,bS]<;>omega)|fail)only[go_sem,bS];unfold zbm;simp(disch:=first|omega|(simp(disch:=first|omega|fail)only[go_sem]<;>omega)|fail)only[go_sem];exact ztH f hh fb hk
 rw[if_neg c21]at hk;by_cases c22:s.op=22
 ·rw[if_pos c22]at hk;refine zaa (λ_ _=>False) (λ_ _ _ h=>h.elim) ?_;simp(disch:=first|omega|(simp(disch:=first|omega|fail)only[go_sem,bS]<;>omega)|fail)only[go_sem,bS];unfold zbm;simp(disch:=first|omega|(simp(disch:=first|omega|fail)only[go_sem]<;>omega)|fail)only[go_sem];unfold zbL;simp(disch:=first|omega|(simp(disch:=first|omega|fail)only[go_sem]<;>omega)|fail)only[go_sem];exact ztd f hh na hk
 rw[if_neg c22]at hk;by_cases c23:s.op=23
 ·rw[if_pos c23]at hk;refine zaa (λ_ _=>False) (λ_ _ _ h=>h.elim) ?_;simp(disch:=first|omega|(simp(disch:=first|omega|fail)only[go_sem,bS]<;>omega)|fail)only[go_sem,bS];unfold zbm;simp(disch:=first|omega|(simp(disch:=first|omega|fail)only[go_sem]<;>omega)|fail)only[go_sem];unfold zbL;simp(disch:=first|omega|(simp(disch:=first|omega|fail)only[go_sem]<;>omega)|fail)only[go_sem];unfold zcu;simp(disch:=first|omega|(simp(disch:=first|omega|fail)only[go_sem,bA']<;>omega)|fail)only[go_sem,bA'];obtain⟨e1,e2,e3⟩:=zbG f.h.toS f.tr (A:=w.heap.size+1) (by omega) f.nA (AnsN.plain W.drew (w.heap.size+1+1) _ (a:=SM.Ans.z) rfl rfl rfl) (CB ansZ T.ab);exact hk _ _ _ e1 e2 e3
 rw[if_neg c23]at hk;by_cases c19:s.op=19\/s.op=20
 ·rw[if_pos c19]at hk;refine zaa (λ_ _=>False) (λ_ _ _ h=>h.elim) ?_;simp(disch:=first|omega|(simp(disch:=first|omega|fail)only[go_sem,bS]<;>omega)|fail)only[go_sem,bS];unfold zbm;simp(disch:=first|omega|(simp(disch:=first|omega|fail)only[go_sem]<;>omega)|fail)only[go_sem];unfold zbL;simp(disch:=first|omega|(simp(disch:=first|omega|fail)only[go_sem]<;>omega)|fail)only[go_sem];unfold zcu;simp(disch:=first|omega|(simp(disch:=first|omega|fail)only[go_sem]<;>omega)|fail)only[go_sem];unfold zdW;refine zaa (λt w'=>t=[.bool true]/\w'=W.drew) ?_ ?_
  ·rintro t e w1 ⟨rfl,rfl⟩;unfold zdU;simp(disch:=first|omega|(simp(disch:=first|omega|fail)only[go_sem,bS]<;>omega)|fail)only[go_sem,bS];refine zsm f.h hv1 hh fb h0 mb λw2 F2 c2 h2 t2 a2=>?_;obtain⟨x,y,z,ec,_⟩:=id a2;have t02:=f.tr.trans t2;have bA2:bk w2 (w.heap.size+1)=some (CB ansZ T.ab):=by rw[t2.kp.block _ lA (λe=>f.nA (f.h.sub _ e))];exact bA'
   have lA2:=zaj bA2;have o1:x.oneCell'=true/\y.oneCell'=true/\z.oneCell'=true:=by
    obtain⟨x',y',z',e',b1,b2,b3,_⟩:=a2;rw[e']at ec;injection ec with _ ec;injection ec with _ ec;injection ec with _ ec;injection ec with q1 ec;injection ec with q2 ec;injection ec with q3 ec;subst q1 q2 q3;refine⟨ze0 b1,?_,?_⟩
    ·rcases b2 with⟨_,_,_,rfl,_⟩|⟨_,_,_,_,rfl⟩<;>rfl
    ·rcases b3 with⟨_,_,_,rfl,_⟩|⟨_,_,_,_,rfl⟩<;>rfl
   subst ec;have ox:=o1.1;have oy:=o1.2.1;have oz:=o1.2.2;simp(disch:=first|omega|(simp(disch:=first|omega|fail)only[go_sem,bA2,ox,oy,oz]<;>omega)|fail)only[go_sem,bA2,ox,oy,oz];have nA2:¬F2.use (w.heap.size+1):=λe=>f.nA ((t2.st _ lA).2 e);obtain⟨e1,e2,e3⟩:=zbG h2 t02 (A:=w.heap.size+1) (by omega) nA2 (a2.less (by omega)) (CB (zbq (m.listS k hd s).2 x y z) T.ab);exact hk _ _ _ e1 e2 e3
  ·rcases c19 with c|c
   ·simp(disch:=first|omega|(simp(disch:=first|omega|fail)only[go_sem]<;>omega)|fail)only[go_sem];exact⟨trivial,trivial⟩
   ·simp(disch:=first|omega|(simp(disch:=first|omega|fail)only[go_sem]<;>omega)|fail)only[go_sem];exact⟨trivial,trivial⟩
 ·refine zaa (λt w'=>w'=W.drew) ?_ ?_
  ·rintro t e w1 rfl;exact zs6 f hh fb hvW (by omega) na t e hk0
  ·simp(disch:=first|omega|(simp(disch:=first|omega|fail)only[go_sem,bS]<;>omega)|fail)only[go_sem,bS];unfold zbm;simp(disch:=first|omega|(simp(disch:=first|omega|fail)only[go_sem]<;>omega)|fail)only[go_sem];unfold zbL;simp(disch:=first|omega|(simp(disch:=first|omega|fail)only[go_sem]<;>omega)|fail)only[go_sem];unfold zcu;simp(disch:=first|omega|(simp(disch:=first|omega|fail)only[go_sem]<;>omega)|fail)only[go_sem];unfold zdW;refine zaa (λt w'=>t=[.bool false]/\w'=W.drew) ?_ ?_
   ·rintro t e w1 ⟨rfl,rfl⟩;unfold zdU;simp(disch:=first|omega|(simp(disch:=first|omega|fail)only[go_sem]<;>omega)|fail)only[go_sem]
   ·simp(disch:=first|omega|(simp(disch:=first|omega|fail)only[go_sem]<;>omega)|fail)only[go_sem];exact⟨trivial,trivial⟩
end
section
variable{w:World}{K:Value->World->Prop}{B p:Nat}{m:SM.Mem}{F:Fp}{s:SM.Stp}{v:Value}
theorem zqe(w:World)(s:SM.Stp)(v:Value):∃W:World,w.alloc (CB (zaC s v) T.ae)=W/\Below w.heap.size w W/\W.heap.size=w.heap.size+1/\bk W w.heap.size=some (CB (zaC s v) T.ae):=⟨_,rfl,by repeat (first|exact Below.refl _ _|assumption|refine zag ?_ (by first|omega|(simp only[go_sem]<;>omega)) _|refine Below.alloc ?_ (by first|omega|(simp only[go_sem]<;>omega)) _|refine Below.drew ?_),by simp only[go_sem],zaf _ _ _ rfl⟩
set_option maxHeartbeats 4000000 in
theorem zlY(h:MemS w B p m F)(mb:MB m)(hn:s.name.length<=400)(hk:∀w',Below w.heap.size w w'->K (.bool (m.speaksOpen s)) w'):Cl P Fn.bK #[pt p 0,AG (zaC s v)] w K:=by
 apply ziv;unfold zeQ;obtain⟨W,eW,BW,zW,bS⟩:=zqe w s v;rw[zcJ,eW];simp(disch:=first|omega|(simp(disch:=first|omega|fail)only[go_sem,bS]<;>omega)|fail)only[go_sem,bS];refine zb8 hn λw1 B1=>?_;have BW1:Below w.heap.size w w1:=BW.trans (B1.mono BW.size);have h1:=h.old BW1;have mnn:=mb.nn;have lS:=zaj bS;have bS1:=(zax B1 lS).trans bS;have hnl:=zbH s.name;refine zcC h1 (by omega) mb.la ?_;simp(disch:=first|omega|(simp(disch:=first|omega|fail)only[go_sem,bS1]<;>omega)|fail)only[go_sem,bS1];unfold SM.Mem.speaksOpen at hk;simp only at hk;by_cases c0:SM.zbF s.name=false
 ·refine zaa (λ_ _=>False) (λ_ _ _ h=>h.elim) ?_;rw[if_pos c0]at hk;refine zeo (by omega) λw2 B2=>?_;simp(disch:=first|omega|(simp(disch:=first|omega|fail)only[go_sem,c0]<;>omega)|fail)only[go_sem,c0];exact hk _ (BW1.trans (B2.mono BW1.size))
 rw[if_neg c0]at hk;have c0':SM.zbF s.name=true:=by simpa using c0
 by_cases c1:s.op=0
 ·rw[if_pos c1]at hk;refine zaa (λ_ _=>False) (λ_ _ _ h=>h.elim) ?_;refine zeo (by omega) λw2 B2=>?_;have BW2:=BW1.trans (B2.mono BW1.size);have h2:=h.old BW2;have bS2:=(zax B2 (zaj bS1)).trans bS1;simp(disch:=first|omega|(simp(disch:=first|omega|fail)only[go_sem,c0']<;>omega)|fail)only[go_sem,c0'];unfold zbv;simp(disch:=first|omega|(simp(disch:=first|omega|fail)only[go_sem,bS2]<;>omega)|fail)only[go_sem,bS2];unfold zd8;rw[C.aZ];refine zkJ h2 (by omega) mb.la mb.lt ?_;cases hd:m.isDir (norm s.name)with
  |true=>rw[hd]at hk;simp(disch:=first|omega|(simp(disch:=first|omega|fail)only[go_sem]<;>omega)|fail)only[go_sem];exact hk _ BW2
  |false=>rw[hd]at hk;simp(disch:=first|omega|(simp(disch:=first|omega|fail)only[go_sem]<;>omega)|fail)only[go_sem];refine zjk h2 (by omega) mb.la mb.lt (by omega) ?_;simpa using hk _ BW2
 rw[if_neg c1]at hk;by_cases c2:s.op=1
 ·rw[if_pos c2]at hk;refine zaa (λ_ _=>False) (λ_ _ _ h=>h.elim) ?_;refine zeo (by omega) λw2 B2=>?_;have BW2:=BW1.trans (B2.mono BW1.size);have bS2:=(zax B2 (zaj bS1)).trans bS1;simp(disch:=first|omega|(simp(disch:=first|omega|fail)only[go_sem,c0']<;>omega)|fail)only[go_sem,c0'];unfold zbv;simp(disch:=first|omega|(simp(disch:=first|omega|fail)only[go_sem,bS2]<;>omega)|fail)only[go_sem,bS2];exact hk _ BW2
 rw[if_neg c2]at hk;refine zaa (λt w'=>Below w1.heap.size w1 w') ?_ ?_
 ·rintro t e w2 B2;have BW2:=BW1.trans (B2.mono BW1.size);have h2:=h.old BW2;have bS2:=(zax B2 (zaj bS1)).trans bS1;unfold zdz;have q:=hk _ BW2;by_cases a1:zcq s.flag 1731=0
  ·simp only[a1,decide_true,Bool.true_and]at q;have key:∀b:Bool,((m.find (norm s.name)).isSome||decide (andI s.flag 64=0)||m.clear (norm s.name))=b->K (.bool (b&& !(m.isDir (norm s.name)&&SM.has s.flag 512))) w2:=λb hb=>by rw[hb]at q;exact q
   have tail:∀b:Bool,K (.bool (b&& !(m.isDir (norm s.name)&&SM.has s.flag 512))) w2->
    gd (.bool b) true w2 (λK13=>K13 (pt p 0) w2) λt58 w19=>
    gd (.bool b) true w19 (λK14=>K14 (S (norm s.name)) w19) λt59 w20=>
    gd (.bool b) true w20 (λK15=>st P (zah Fn.aO #[t58,t59]) w20 K15) λt60 w21=>
    gd (.bool b) true w21 (λK16=>K16 t60 w21) λt61 w22=>
    gd t61 true w22 (λK17=>pu P (zad T.ae (pt w.heap.size 0) 3) λv=>K17 v w22) λt62 w23=>
    gd t61 true w23 (λK18=>st P (zab T.int t62) w23 K18) λt63 w24=>
    gd t61 true w24 (λK19=>pu P (oBin .and T.int false true t63 (.int .i64 512)) λv=>K19 v w24) λt64 w25=>
    gd t61 true w25 (λK20=>pu P (oBin .neq T.int false true t64 (.int .i64 0)) λv=>K20 v w25) λt65 w26=>
    gd (.bool b) true w26 (λK21=>pu P (zaD t61 t65 (.bool false)) λv=>K21 v w26) λt66 w27=>
    gd (.bool b) true w27 (λK22=>pu P (oUn .not t66) λv=>K22 v w27) λt67 w28=>
    pu P (zaD (.bool b) t67 (.bool false)) λt68=>
    K (tup [t68]) w28:=λb hb=>by
    cases b with
    |false=>simp(disch:=first|omega|(simp(disch:=first|omega|fail)only[go_sem]<;>omega)|fail)only[go_sem];simpa using hb
    |true=>
     simp(disch:=first|omega|(simp(disch:=first|omega|fail)only[go_sem]<;>omega)|fail)only[go_sem];refine zkJ h2 (by omega) mb.la mb.lt ?_;cases hd:m.isDir (norm s.name)with
     |false=>rw[hd]at hb;simp(disch:=first|omega|(simp(disch:=first|omega|fail)only[go_sem]<;>omega)|fail)only[go_sem];simpa using hb
     |true=>rw[hd]at hb;simp(disch:=first|omega|(simp(disch:=first|omega|fail)only[go_sem,bS2]<;>omega)|fail)only[go_sem,bS2];simpa[SM.has]using hb
   cases hf:(m.find (norm s.name)).isSome with
   |true=>have q2:=tail true (key true (by rw[hf];rfl));simp(disch:=first|omega|(simp(disch:=first|omega|fail)only[go_sem,bS2,a1,decide_true]<;>omega)|fail)only[go_sem,bS2,a1,decide_true];simp(disch:=first|omega|(simp(disch:=first|omega|fail)only[go_sem]<;>omega)|fail)only[go_sem]at q2;exact q2
   |false=>
    by_cases a2:andI s.flag 64=0
    ·have q2:=tail true (key true (by rw[hf];simp[a2]));simp(disch:=first|omega|(simp(disch:=first|omega|fail)only[go_sem,bS2,a1,a2,decide_true]<;>omega)|fail)only[go_sem,bS2,a1,a2,decide_true];simp(disch:=first|omega|(simp(disch:=first|omega|fail)only[go_sem]<;>omega)|fail)only[go_sem]at q2;exact q2
    ·simp(disch:=first|omega|(simp(disch:=first|omega|fail)only[go_sem,bS2,a1,a2,decide_true,decide_false]<;>omega)|fail)only[go_sem,bS2,a1,a2,decide_true,decide_false];refine zjk h2 (by omega) mb.la mb.lt (by omega) ?_;cases hcl:m.clear (norm s.name)with
     |true=>have q2:=tail true (key true (by rw[hf,hcl];simp));simp(disch:=first|omega|(simp(disch:=first|omega|fail)only[go_sem]<;>omega)|fail)only[go_sem];simp(disch:=first|omega|(simp(disch:=first|omega|fail)only[go_sem]<;>omega)|fail)only[go_sem]at q2;exact q2
     |false=>have q2:=tail false (key false (by rw[hf,hcl];simp[a2]));simp(disch:=first|omega|(simp(disch:=first|omega|fail)only[go_sem]<;>omega)|fail)only[go_sem];simp(disch:=first|omega|(simp(disch:=first|omega|fail)only[go_sem]<;>omega)|fail)only[go_sem]at q2;exact q2
  ·simp only[a1,decide_false,Bool.false_and]at q;simp(disch:=first|omega|(simp(disch:=first|omega|fail)only[go_sem,bS2,a1,decide_false]<;>omega)|fail)only[go_sem,bS2,a1,decide_false];exact q
 ·refine zeo (by omega) λw2 B2=>?_;have BW2:=BW1.trans (B2.mono BW1.size);have bS2:=(zax B2 (zaj bS1)).trans bS1;simp(disch:=first|omega|(simp(disch:=first|omega|fail)only[go_sem,c0']<;>omega)|fail)only[go_sem,c0'];unfold zbv;simp(disch:=first|omega|(simp(disch:=first|omega|fail)only[go_sem,bS2]<;>omega)|fail)only[go_sem,bS2];exact B2
end
section
variable{w W:World}{K:Value->World->Prop}{B p:Nat}{m:SM.Mem}{F:Fp}{s:SM.Stp}{v:Value}
structure Lk(w W:World)(B p:Nat)(m:SM.Mem)(F:Fp)(s:SM.Stp)(v:Value):Prop where
 h:MemS W B p m F
 b:Below w.heap.size w W
 S:bk W w.heap.size=some (CB (zaC s v) T.ae)
theorem Lk.next{W':World}(f:Lk w W B p m F s v)(b:Below W.heap.size W W'):Lk w W' B p m F s v:=⟨f.h.old b,f.b.trans (b.mono f.b.size),(zax b (zaj f.S)).trans f.S⟩
abbrev LkK(w:World)(r:Bool)(K:Value->World->Prop):Prop:=∀w',Below w.heap.size w w'->K (.bool r) w'
theorem zme(f:Lk w W B p m F s v)(mb:MB m)(hn:s.name.length<=400)(hk:LkK w ((m.find (norm s.name)).isSome||m.clear (norm s.name)) K):
  zb3 (.bool (m.find (norm s.name)).isSome) W (pt p 0) (S (norm s.name)) K:=by
 unfold zb3;have hnl:=zbH s.name;have mnn:=mb.nn;have q:=hk W f.b;cases hf:(m.find (norm s.name)).isSome with
 |true=>rw[hf]at q;simp(disch:=first|omega|(simp(disch:=first|omega|fail)only[go_sem]<;>omega)|fail)only[go_sem];exact q
 |false=>rw[hf]at q;simp(disch:=first|omega|(simp(disch:=first|omega|fail)only[go_sem]<;>omega)|fail)only[go_sem];refine zjk f.h (by omega) mb.la mb.lt (by omega) ?_;simpa using q
theorem zpo(f:Lk w W B p m F s v)(mb:MB m)(hk:LkK w (decide (norm s.name≠[47])&&decide (m.children (norm s.name)=[])) K):
  zb2 (S (norm s.name)) W (pt p 0) K:=by
 unfold zb2;have mnn:=mb.nn;by_cases c1:norm s.name=[47]
 ·have q:=hk W f.b;simp(disch:=first|omega|(simp(disch:=first|omega|fail)only[go_sem,c1,ne_eq,not_true_eq_false,decide_false]<;>omega)|fail)only[go_sem,c1,ne_eq,not_true_eq_false,decide_false];simpa[c1]using q
 ·simp(disch:=first|omega|(simp(disch:=first|omega|fail)only[go_sem,c1,ne_eq,not_false_eq_true,decide_true]<;>omega)|fail)only[go_sem,c1,ne_eq,not_false_eq_true,decide_true];refine zhF f.h (by omega) (λx hx=>by have:=mb.nl x hx;omega) λw2 v2 o2 B2=>?_;have q:=hk w2 (f.next B2).b;obtain⟨a,c,rfl⟩:=zan o2;simp(disch:=first|omega|(simp(disch:=first|omega|fail)only[go_sem]<;>omega)|fail)only[go_sem];have e:decide (((m.children (norm s.name)).length:Int)=0)=decide (m.children (norm s.name)=[]):=decide_eq_decide.2 ⟨λh=>List.length_eq_zero_iff.1 (by omega),λh=>by rw[h];rfl⟩;rw[e];simpa[c1]using q
set_option maxHeartbeats 4000000 in
theorem zpu(f:Lk w W B p m F s v)(mb:MB m)(hn:s.name.length<=400)(ho:s.other.length<=400)(hk:LkK w (SM.zbF s.other&&(decide (norm s.name=norm s.other)||(decide (norm s.name≠[47])&&decide (norm s.other≠[47])&& !SM.below (norm s.other) (norm s.name)&& !m.isDir (norm s.other)&&m.clear (norm s.other)))) K):
  zb4 (pt w.heap.size 0) W (S (norm s.name)) (pt p 0) K:=by
 unfold zb4;have mnn:=mb.nn;have hnl:=zbH s.name;have hol:=zbH s.other;have bS:=f.S;simp(disch:=first|omega|(simp(disch:=first|omega|fail)only[go_sem,bS]<;>omega)|fail)only[go_sem,bS];refine zb8 ho λw1 B1=>?_;have f1:=f.next B1;have bS1:=f1.S;simp(disch:=first|omega|(simp(disch:=first|omega|fail)only[go_sem,bS1]<;>omega)|fail)only[go_sem,bS1];refine zeo (by omega) λw2 B2=>?_;have f2:=f1.next B2;have q:=hk w2 f2.b;cases c0:SM.zbF s.other with
 |false=>rw[c0]at q;simp(disch:=first|omega|(simp(disch:=first|omega|fail)only[go_sem]<;>omega)|fail)only[go_sem];exact q
 |true=>
  rw[c0]at q;by_cases c1:norm s.name=norm s.other
  ·simp(disch:=first|omega|(simp(disch:=first|omega|fail)only[go_sem,c1,decide_true]<;>omega)|fail)only[go_sem,c1,decide_true];simpa[c1]using q
  ·by_cases c2:norm s.name=[47]
   ·have c1':¬[47]=norm s.other:=λe=>c1 (by rw[c2];exact e);simp(disch:=first|omega|(simp(disch:=first|omega|fail)only[go_sem,c2,c1',ne_eq,not_true_eq_false,decide_false]<;>omega)|fail)only[go_sem,c2,c1',ne_eq,not_true_eq_false,decide_false];simpa[c2,c1']using q
   ·by_cases c3:norm s.other=[47]
    ·have c1':¬norm s.name=[47]:=c2;simp(disch:=first|omega|(simp(disch:=first|omega|fail)only[go_sem,c3,c1',ne_eq,not_true_eq_false,not_false_eq_true,decide_false,decide_true]<;>omega)|fail)only[go_sem,c3,c1',ne_eq,not_true_eq_false,not_false_eq_true,decide_false,decide_true];simpa[c3,c1']using q
    ·simp(disch:=first|omega|(simp(disch:=first|omega|fail)only[go_sem,c1,c2,c3,ne_eq,not_true_eq_false,not_false_eq_true,decide_false,decide_true]<;>omega)|fail)only[go_sem,c1,c2,c3,ne_eq,not_true_eq_false,not_false_eq_true,decide_false,decide_true];refine zg9 (by omega) (by omega) ?_;cases c4:SM.below (norm s.other) (norm s.name)with
     |true=>rw[c4]at q;simp(disch:=first|omega|(simp(disch:=first|omega|fail)only[go_sem]<;>omega)|fail)only[go_sem];simpa[c1]using q
     |false=>
      rw[c4]at q;simp(disch:=first|omega|(simp(disch:=first|omega|fail)only[go_sem]<;>omega)|fail)only[go_sem];refine zkJ f2.h (by omega) mb.la mb.lt ?_;cases c5:m.isDir (norm s.other)with
      |true=>rw[c5]at q;simp(disch:=first|omega|(simp(disch:=first|omega|fail)only[go_sem]<;>omega)|fail)only[go_sem];simpa[c1]using q
      |false=>rw[c5]at q;simp(disch:=first|omega|(simp(disch:=first|omega|fail)only[go_sem]<;>omega)|fail)only[go_sem];refine zjk f2.h (by omega) mb.la mb.lt (by omega) ?_;simpa[c1,c2,c3]using q
theorem zpj(f:Lk w W B p m F s v)(hk:LkK w ((m.find (norm s.name)).isSome&&decide (s.name=norm s.name)) K):
  zbU (.bool (m.find (norm s.name)).isSome) W (pt w.heap.size 0) (S (norm s.name)) K:=by
 unfold zbU;have bS:=f.S;have q:=hk W f.b;cases hf:(m.find (norm s.name)).isSome with
 |true=>rw[hf]at q;simp(disch:=first|omega|(simp(disch:=first|omega|fail)only[go_sem,bS]<;>omega)|fail)only[go_sem,bS];simpa using q
 |false=>rw[hf]at q;simp(disch:=first|omega|(simp(disch:=first|omega|fail)only[go_sem]<;>omega)|fail)only[go_sem];exact q
theorem zpn(f:Lk w W B p m F s v)(hk:LkK w (decide (-1099511627776<=s.off)&&decide (s.off<=1099511627776)) K):
  zbX (pt w.heap.size 0) W K:=by
 unfold zbX;have bS:=f.S;have q:=hk W f.b;by_cases c:-1099511627776<=s.off
 ·simp(disch:=first|omega|(simp(disch:=first|omega|fail)only[go_sem,bS]<;>omega)|fail)only[go_sem,bS];simpa[c]using q
 ·simp(disch:=first|omega|(simp(disch:=first|omega|fail)only[go_sem,bS]<;>omega)|fail)only[go_sem,bS];simpa[c]using q
set_option maxHeartbeats 4000000 in
theorem zle(h:MemS w B p m F)(mb:MB m)(hn:s.name.length<=400)(ho:s.other.length<=400)(hop:3<=s.op/\s.op<=11)(hk:LkK w (m.speaksNames s) K):Cl P Fn.br #[pt p 0,AG (zaC s v)] w K:=by
 apply zid;unfold zej;obtain⟨W,eW,BW,zW,bS⟩:=zqe w s v;have mnn:=mb.nn;have hnl:=zbH s.name;rw[zcJ,eW];have f:Lk w W B p m F s v:=⟨h.old BW,BW,bS⟩;simp(disch:=first|omega|(simp(disch:=first|omega|fail)only[go_sem,bS]<;>omega)|fail)only[go_sem,bS];refine zb8 hn λw1 B1=>?_;have f1:=f.next B1;have bS1:=f1.S;refine zcC f1.h (by omega) mb.la ?_;unfold SM.Mem.speaksNames at hk;simp only at hk;by_cases c0:SM.zbF s.name=false
 ·rw[if_pos c0]at hk;rw[zar,zaq];refine zaa (λ_ _=>False) (λ_ _ _ h=>h.elim) ?_;simp(disch:=first|omega|(simp(disch:=first|omega|fail)only[go_sem,bS1]<;>omega)|fail)only[go_sem,bS1];refine zeo (by omega) λw2 B2=>?_;simp(disch:=first|omega|(simp(disch:=first|omega|fail)only[go_sem,c0]<;>omega)|fail)only[go_sem,c0];exact hk _ (f1.next B2).b
 rw[if_neg c0]at hk;have c0':SM.zbF s.name=true:=by simpa using c0
 rw[zar,zaq];refine zaa (λt w'=>Below w.heap.size w w'/\m.speaksNames s=true) ?_ ?_
 ·rintro t e w2 ⟨B2,hs⟩;unfold zaV;have hk2:LkK w (m.speaksNames s) K:=by
   unfold SM.Mem.speaksNames;simp only
   rw[if_neg c0];exact hk
  rw[hs]at hk2;exact hk2 w2 B2
 simp(disch:=first|omega|(simp(disch:=first|omega|fail)only[go_sem,bS1]<;>omega)|fail)only[go_sem,bS1];refine zeo (by omega) λw2 B2=>?_;have f2:=f1.next B2;have bS2:=f2.S;simp(disch:=first|omega|(simp(disch:=first|omega|fail)only[go_sem,c0']<;>omega)|fail)only[go_sem,c0'];unfold zc4;by_cases c3:s.op=3\/s.op=4
 ·rw[if_pos c3]at hk;rcases c3 with c3|c3
  ·simp(disch:=first|omega|(simp(disch:=first|omega|fail)only[go_sem,bS2]<;>omega)|fail)only[go_sem,bS2];exact zme f2 mb hn hk
  ·simp(disch:=first|omega|(simp(disch:=first|omega|fail)only[go_sem,bS2]<;>omega)|fail)only[go_sem,bS2];exact zme f2 mb hn hk
 rw[if_neg c3]at hk;have c3a:¬s.op=3:=λe=>c3 (.inl e);have c3b:¬s.op=4:=λe=>c3 (.inr e);simp(disch:=first|omega|(simp(disch:=first|omega|fail)only[go_sem,bS2]<;>omega)|fail)only[go_sem,bS2];unfold zc6;by_cases c5:s.op=5
 ·rw[if_pos c5]at hk;simp(disch:=first|omega|(simp(disch:=first|omega|fail)only[go_sem,bS2]<;>omega)|fail)only[go_sem,bS2];exact zpo f2 mb hk
 rw[if_neg c5]at hk;simp(disch:=first|omega|(simp(disch:=first|omega|fail)only[go_sem,bS2]<;>omega)|fail)only[go_sem,bS2];unfold zc1;by_cases c6:s.op=6
 ·rw[if_pos c6]at hk;simp(disch:=first|omega|(simp(disch:=first|omega|fail)only[go_sem,bS2]<;>omega)|fail)only[go_sem,bS2];exact hk _ f2.b
 rw[if_neg c6]at hk;simp(disch:=first|omega|(simp(disch:=first|omega|fail)only[go_sem,bS2]<;>omega)|fail)only[go_sem,bS2];unfold zdr;by_cases c7:s.op=7
 ·rw[if_pos c7]at hk;simp(disch:=first|omega|(simp(disch:=first|omega|fail)only[go_sem,bS2]<;>omega)|fail)only[go_sem,bS2];exact zpu f2 mb hn ho hk
 rw[if_neg c7]at hk;simp(disch:=first|omega|(simp(disch:=first|omega|fail)only[go_sem,bS2]<;>omega)|fail)only[go_sem,bS2];unfold zdo;by_cases c10:s.op=10
 ·rw[if_pos c10]at hk;simp(disch:=first|omega|(simp(disch:=first|omega|fail)only[go_sem,bS2]<;>omega)|fail)only[go_sem,bS2];exact zpj f2 hk
 rw[if_neg c10]at hk;simp(disch:=first|omega|(simp(disch:=first|omega|fail)only[go_sem,bS2]<;>omega)|fail)only[go_sem,bS2];unfold zdq;by_cases c11:s.op=11
 ·rw[if_pos c11]at hk;simp(disch:=first|omega|(simp(disch:=first|omega|fail)only[go_sem,bS2]<;>omega)|fail)only[go_sem,bS2];exact zpn f2 hk
 rw[if_neg c11]at hk;simp(disch:=first|omega|(simp(disch:=first|omega|fail)only[go_sem,bS2]<;>omega)|fail)only[go_sem,bS2];refine⟨f2.b,?_⟩;unfold SM.Mem.speaksNames;simp only
 rw[if_neg c0,if_neg c3,if_neg c5,if_neg c6,if_neg c7,if_neg c10,if_neg c11]
end
theorem zeroH:rp P (zeroValue T.aT)=some (.pointer none):=by kernel_rfl
section
variable{w W:World}{K:Value->World->Prop}{B p:Nat}{m:SM.Mem}{F:Fp}{vn va vd:Value}{q:Nat}{ds:List Value}{hl:ML Int}{c:Nat}{hb:Int->Nat}{ρ:Nat->Rl}{k:Int}{hd:SM.Hnd}{s:SM.Stp}{v:Value}
set_option maxHeartbeats 8000000 in
theorem zl1(h:MemX w B p m F vn va vd q ds hl c hb ρ)(hv:∃a c,v=.slice a s.data.length c)(hh:SM.hget m.hs k=some hd)(hn:hd.node<m.nodes.length)(mb:MB m)(hop:s.op<0\/11<s.op)(hk:LkK w (m.speaksFile hd s) K):Cl P Fn.bL #[pt p 0,pt (hb k) 0,AG (zaC s v)] w K:=by
 apply zi1;unfold zeT;obtain⟨W,eW,BW,zW,bS⟩:=zqe w s v;rw[zcJ,eW];have h1:=h.old BW;have bm:=h1.bm;have bh:=(h1.bh k hd hh).2;obtain⟨g,cur,na,na1,na2⟩:=h1.node hn;have ix:=na.ix .i64;have bg:=na.bg;have len:=na.len;have row:=na.row;obtain⟨dat,_⟩:=h1.data hn;obtain⟨da,dc,ed⟩:=zay dat;rw[ed]at row;have lp:=zaj bm;have lh:=zaj bh;have lg:=zaj bg;have mnn:=mb.nn;simp(disch:=first|omega|(simp(disch:=first|omega|fail)only[go_sem,bm,bh,ix,bg,row]<;>omega)|fail)only[go_sem,bm,bh,ix,bg,row];refine⟨trivial,trivial,trivial,?_⟩;obtain⟨W2,e2⟩:∃W2,W2=setb (W.alloc (CB (zbM ⟨false,0,[],0,[]⟩ (.slice none 0 0)) T.ag)).drew W.heap.size (CB (zbM (m.node hd.node) (.slice da (m.node hd.node).data.length dc)) T.ag):=⟨_,rfl⟩;have B2:Below W.heap.size W W2:=by rw[e2];repeat (first|exact Below.refl _ _|assumption|refine zag ?_ (by first|omega|(simp only[go_sem]<;>omega)) _|refine Below.alloc ?_ (by first|omega|(simp only[go_sem]<;>omega)) _|refine Below.drew ?_)
 have bN:bk W2 W.heap.size=some (CB (zbM (m.node hd.node) (.slice da (m.node hd.node).data.length dc)) T.ag):=by rw[e2];exact zap _ _ _ _ rfl (by simp only[go_sem];omega)
 rw[<-e2];clear e2 na;have bS2:=(zax B2 (zaj bS)).trans bS;have h2:=h1.old B2;have bh2:=(h2.bh k hd hh).2;have BW2:Below w.heap.size w W2:=BW.trans (B2.mono BW.size);have lN:=zaj bN;obtain⟨av,cv,ev⟩:=hv;unfold SM.Mem.speaksFile at hk;simp only at hk;by_cases c1:s.op=19\/s.op=20
 ·rw[if_pos c1]at hk;refine zaa (λ_ _=>False) (λ_ _ _ h=>h.elim) ?_;simp(disch:=first|omega|(simp(disch:=first|omega|fail)only[go_sem,bS2]<;>omega)|fail)only[go_sem,bS2];refine zaa (λt w'=>t=[.bool true]/\w'=W2) ?_ ?_
  ·rintro t e w3 ⟨rfl,rfl⟩;unfold zbn;simp(disch:=first|omega|(simp(disch:=first|omega|fail)only[go_sem]<;>omega)|fail)only[go_sem];unfold zdm;simp(disch:=first|omega|(simp(disch:=first|omega|fail)only[go_sem,bN]<;>omega)|fail)only[go_sem,bN];refine zcC h2.toS (by omega) mb.la ?_;have q1:=hk w3.drew BW2.drew;cases hdir:(m.node hd.node).dir with
   |false=>rw[hdir]at q1;simp(disch:=first|omega|(simp(disch:=first|omega|fail)only[go_sem,bN,hdir]<;>omega)|fail)only[go_sem,bN,hdir];exact⟨λh=>(by cases h),q1⟩
   |true=>
    rw[hdir]at hk;simp only[Bool.not_true,Bool.false_or]at hk;have q1:=hk w3.drew BW2.drew;cases hf:m.find (m.node hd.node).name with
    |none=>rw[hf]at q1;simp(disch:=first|omega|(simp(disch:=first|omega|fail)only[go_sem,bN,hdir,Option.isSome_none]<;>omega)|fail)only[go_sem,bN,hdir,Option.isSome_none];exact⟨λh=>(by cases h),by simpa using q1⟩
    |some x=>
     rw[hf]at hk q1;by_cases cx:x=hd.node
     ·subst cx;simp(disch:=first|omega|(simp(disch:=first|omega|fail)only[go_sem,bN,hdir,Option.isSome_some,Option.getD_some,bh2,decide_true]<;>omega)|fail)only[go_sem,bN,hdir,Option.isSome_some,Option.getD_some,bh2,decide_true];refine zhF (h2.old (by repeat (first|exact Below.refl _ _|assumption|refine zag ?_ (by first|omega|(simp only[go_sem]<;>omega)) _|refine Below.alloc ?_ (by first|omega|(simp only[go_sem]<;>omega)) _|refine Below.drew ?_):Below w3.heap.size w3 w3.drew)).toS (by omega) (λx hx=>by have:=mb.nl x hx;omega) λw4 v4 o4 B4=>?_;have B34:Below w3.heap.size w3 w4:=(by repeat (first|exact Below.refl _ _|assumption|refine zag ?_ (by first|omega|(simp only[go_sem]<;>omega)) _|refine Below.alloc ?_ (by first|omega|(simp only[go_sem]<;>omega)) _|refine Below.drew ?_):Below w3.heap.size w3 w3.drew).trans B4;have q2:=hk w4 (BW2.trans (B34.mono BW2.size));have bh4:=(zax B34 (zaj bh2)).trans bh2;obtain⟨a4,c4,rfl⟩:=zan o4;simp(disch:=first|omega|(simp(disch:=first|omega|fail)only[go_sem,bh4]<;>omega)|fail)only[go_sem,bh4];refine⟨λ_=>trivial,?_⟩;simpa using q2
     ·have cx':¬(x:Int)=hd.node:=λe=>cx (by omega);simp(disch:=first|omega|(simp(disch:=first|omega|fail)only[go_sem,bN,hdir,Option.isSome_some,Option.getD_some,bh2,cx',decide_false]<;>omega)|fail)only[go_sem,bN,hdir,Option.isSome_some,Option.getD_some,bh2,cx',decide_false];exact⟨λh=>(by cases h),by simpa[cx]using q1⟩
  ·rcases c1 with c1|c1
   ·simp(disch:=first|omega|(simp(disch:=first|omega|fail)only[go_sem,bS2]<;>omega)|fail)only[go_sem,bS2];exact⟨trivial,trivial⟩
   ·simp(disch:=first|omega|(simp(disch:=first|omega|fail)only[go_sem,bS2]<;>omega)|fail)only[go_sem,bS2];exact⟨trivial,trivial⟩
 rw[if_neg c1]at hk;have c19:¬s.op=19:=λe=>c1 (.inl e);have c20:¬s.op=20:=λe=>c1 (.inr e);by_cases c2:s.op=18\/s.op=21\/s.op=22\/s.op=23
 ·rw[if_pos c2]at hk;refine zaa (λ_ _=>False) (λ_ _ _ h=>h.elim) ?_;simp(disch:=first|omega|(simp(disch:=first|omega|fail)only[go_sem,bS2]<;>omega)|fail)only[go_sem,bS2];refine zaa (λt w'=>t=[.bool false]/\w'=W2) ?_ ?_
  ·rintro t e w3 ⟨rfl,rfl⟩;unfold zbn;simp(disch:=first|omega|(simp(disch:=first|omega|fail)only[go_sem]<;>omega)|fail)only[go_sem];unfold zbY;refine zaa (λt w'=>t=[.bool true]/\w'=w3) ?_ ?_
   ·rintro t e w4 ⟨rfl,rfl⟩;unfold zbZ;simp(disch:=first|omega|(simp(disch:=first|omega|fail)only[go_sem]<;>omega)|fail)only[go_sem];exact hk _ BW2
   ·by_cases c18:s.op=18
    ·simp(disch:=first|omega|(simp(disch:=first|omega|fail)only[go_sem]<;>omega)|fail)only[go_sem];exact⟨trivial,trivial⟩
    ·simp(disch:=first|omega|(simp(disch:=first|omega|fail)only[go_sem]<;>omega)|fail)only[go_sem];unfold zb1;by_cases c21:s.op=21
     ·simp(disch:=first|omega|(simp(disch:=first|omega|fail)only[go_sem]<;>omega)|fail)only[go_sem];exact⟨trivial,trivial⟩
     ·by_cases c22:s.op=22
      ·simp(disch:=first|omega|(simp(disch:=first|omega|fail)only[go_sem]<;>omega)|fail)only[go_sem];exact⟨trivial,trivial⟩
      ·simp(disch:=first|omega|(simp(disch:=first|omega|fail)only[go_sem]<;>omega)|fail)only[go_sem];exact⟨trivial,trivial⟩
  ·simp(disch:=first|omega|(simp(disch:=first|omega|fail)only[go_sem,bS2]<;>omega)|fail)only[go_sem,bS2];exact⟨trivial,trivial⟩
 rw[if_neg c2]at hk;have d18:¬s.op=18:=λe=>c2 (.inl e);have d21:¬s.op=21:=λe=>c2 (.inr (.inl e));have d22:¬s.op=22:=λe=>c2 (.inr (.inr (.inl e)));have d23:¬s.op=23:=λe=>c2 (.inr (.inr (.inr e)));refine zaa (λt w'=>w'=W2) ?_ ?_
 ·rintro t e w3 rfl;unfold zdn;have bS3:=bS2;rw[ev]at bS3;have q1:=hk w3 BW2;by_cases hbad:(m.node hd.node).dir=true\/4096<s.data.length\/s.n<0\/4096<s.n\/1099511627776<s.off\/s.off< -1099511627776
  ·have hb':((m.node hd.node).dir||decide (4096<s.data.length)||decide (s.n<0)||decide (4096<s.n)||decide (1099511627776<s.off)||decide (s.off< -1099511627776))=true:=by simp only[Bool.or_eq_true,decide_eq_true_eq];rcases hbad with h|h|h|h|h|h<;>simp[h]
   rw[if_pos hb']at q1;refine zaa (λ_ _=>False) (λ_ _ _ h=>h.elim) ?_;by_cases b1:(m.node hd.node).dir=true
   ·simp(disch:=first|omega|(simp(disch:=first|omega|fail)only[go_sem,bN,b1]<;>omega)|fail)only[go_sem,bN,b1];exact q1
   have b1':(m.node hd.node).dir=false:=by simpa using b1
   by_cases b2:4096<s.data.length
   ·simp(disch:=first|omega|(simp(disch:=first|omega|fail)only[go_sem,bN,b1',bS3]<;>omega)|fail)only[go_sem,bN,b1',bS3];exact q1
   by_cases b3:s.n<0
   ·simp(disch:=first|omega|(simp(disch:=first|omega|fail)only[go_sem,bN,b1',bS3]<;>omega)|fail)only[go_sem,bN,b1',bS3];exact q1
   by_cases b4:4096<s.n
   ·simp(disch:=first|omega|(simp(disch:=first|omega|fail)only[go_sem,bN,b1',bS3]<;>omega)|fail)only[go_sem,bN,b1',bS3];exact q1
   by_cases b5:1099511627776<s.off
   ·simp(disch:=first|omega|(simp(disch:=first|omega|fail)only[go_sem,bN,b1',bS3]<;>omega)|fail)only[go_sem,bN,b1',bS3];exact q1
   have b6:s.off< -1099511627776:=by
    rcases hbad with h|h|h|h|h|h
    ·exact absurd h b1
    ·exact absurd h b2
    ·exact absurd h b3
    ·exact absurd h b4
    ·exact absurd h b5
    ·exact h
   simp(disch:=first|omega|(simp(disch:=first|omega|fail)only[go_sem,bN,b1',bS3]<;>omega)|fail)only[go_sem,bN,b1',bS3];exact q1
  ·have b1:(m.node hd.node).dir=false:=by
    cases hx:(m.node hd.node).dir with
    |true=>exact absurd (.inl hx) hbad
    |false=>rfl
   have b2:¬4096<s.data.length:=λh=>hbad (.inr (.inl h));have b3:¬s.n<0:=λh=>hbad (.inr (.inr (.inl h)));have b4:¬4096<s.n:=λh=>hbad (.inr (.inr (.inr (.inl h))));have b5:¬1099511627776<s.off:=λh=>hbad (.inr (.inr (.inr (.inr (.inl h)))));have b6:¬s.off< -1099511627776:=λh=>hbad (.inr (.inr (.inr (.inr (.inr h)))));have hb':¬((m.node hd.node).dir||decide (4096<s.data.length)||decide (s.n<0)||decide (4096<s.n)||decide (1099511627776<s.off)||decide (s.off< -1099511627776))=true:=by simp[b1];omega
   rw[if_neg hb']at hk q1;refine zaa (λt w'=>w'=w3) ?_ ?_
   ·rintro t e w4 rfl;unfold zdu;by_cases e12:s.op=12
    ·rw[if_pos e12]at q1;refine zaa (λ_ _=>False) (λ_ _ _ h=>h.elim) ?_;simp(disch:=first|omega|(simp(disch:=first|omega|fail)only[go_sem,bS2]<;>omega)|fail)only[go_sem,bS2];unfold zdZ;cases hcl:hd.cl with
     |true=>rw[hcl]at q1;simp(disch:=first|omega|(simp(disch:=first|omega|fail)only[go_sem,bh2,hcl]<;>omega)|fail)only[go_sem,bh2,hcl];exact q1
     |false=>rw[hcl]at q1;simp(disch:=first|omega|(simp(disch:=first|omega|fail)only[go_sem,bh2,hcl]<;>omega)|fail)only[go_sem,bh2,hcl];simpa using q1
    rw[if_neg e12]at q1;by_cases e13:s.op=13
    ·rw[if_pos e13]at q1;refine zaa (λ_ _=>False) (λ_ _ _ h=>h.elim) ?_;simp(disch:=first|omega|(simp(disch:=first|omega|fail)only[go_sem,bS2]<;>omega)|fail)only[go_sem,bS2];unfold zaQ;simp(disch:=first|omega|(simp(disch:=first|omega|fail)only[go_sem,bS2]<;>omega)|fail)only[go_sem,bS2];exact q1
    rw[if_neg e13]at q1;by_cases e14:s.op=14
    ·rw[if_pos e14]at q1;refine zaa (λ_ _=>False) (λ_ _ _ h=>h.elim) ?_;simp(disch:=first|omega|(simp(disch:=first|omega|fail)only[go_sem,bS2]<;>omega)|fail)only[go_sem,bS2];unfold zaQ;simp(disch:=first|omega|(simp(disch:=first|omega|fail)only[go_sem]<;>omega)|fail)only[go_sem];unfold za0;simp(disch:=first|omega|(simp(disch:=first|omega|fail)only[go_sem]<;>omega)|fail)only[go_sem];unfold zea;by_cases hp:0<=hd.pos
     ·simp(disch:=first|omega|(simp(disch:=first|omega|fail)only[go_sem,bh2]<;>omega)|fail)only[go_sem,bh2];simpa[hp]using q1
     ·simp(disch:=first|omega|(simp(disch:=first|omega|fail)only[go_sem,bh2]<;>omega)|fail)only[go_sem,bh2];simpa[hp]using q1
    rw[if_neg e14]at q1;by_cases e15:s.op=15
    ·rw[if_pos e15]at q1;refine zaa (λ_ _=>False) (λ_ _ _ h=>h.elim) ?_;simp(disch:=first|omega|(simp(disch:=first|omega|fail)only[go_sem,bS2]<;>omega)|fail)only[go_sem,bS2];unfold zaQ;simp(disch:=first|omega|(simp(disch:=first|omega|fail)only[go_sem]<;>omega)|fail)only[go_sem];unfold za0;simp(disch:=first|omega|(simp(disch:=first|omega|fail)only[go_sem]<;>omega)|fail)only[go_sem];unfold zba;simp(disch:=first|omega|(simp(disch:=first|omega|fail)only[go_sem]<;>omega)|fail)only[go_sem];unfold zdB;by_cases hp:0<=s.off
     ·simp(disch:=first|omega|(simp(disch:=first|omega|fail)only[go_sem,bS2]<;>omega)|fail)only[go_sem,bS2];simpa[hp]using q1
     ·simp(disch:=first|omega|(simp(disch:=first|omega|fail)only[go_sem,bS2]<;>omega)|fail)only[go_sem,bS2];simpa[hp]using q1
    rw[if_neg e15]at q1;by_cases e17:s.op=17
    ·rw[if_pos e17]at q1;refine zaa (λ_ _=>False) (λ_ _ _ h=>h.elim) ?_;simp(disch:=first|omega|(simp(disch:=first|omega|fail)only[go_sem,bS2]<;>omega)|fail)only[go_sem,bS2];unfold zaQ;simp(disch:=first|omega|(simp(disch:=first|omega|fail)only[go_sem]<;>omega)|fail)only[go_sem];unfold za0;simp(disch:=first|omega|(simp(disch:=first|omega|fail)only[go_sem]<;>omega)|fail)only[go_sem];unfold zba;simp(disch:=first|omega|(simp(disch:=first|omega|fail)only[go_sem]<;>omega)|fail)only[go_sem];unfold zbt;simp(disch:=first|omega|(simp(disch:=first|omega|fail)only[go_sem,bS2]<;>omega)|fail)only[go_sem,bS2];exact q1
    rw[if_neg e17]at q1;by_cases e16:s.op=16
    ·rw[if_pos e16]at q1;refine zaa (λ_ _=>False) (λ_ _ _ h=>h.elim) ?_;simp(disch:=first|omega|(simp(disch:=first|omega|fail)only[go_sem,bS2]<;>omega)|fail)only[go_sem,bS2];unfold zaQ;simp(disch:=first|omega|(simp(disch:=first|omega|fail)only[go_sem]<;>omega)|fail)only[go_sem];unfold za0;simp(disch:=first|omega|(simp(disch:=first|omega|fail)only[go_sem]<;>omega)|fail)only[go_sem];unfold zba;simp(disch:=first|omega|(simp(disch:=first|omega|fail)only[go_sem]<;>omega)|fail)only[go_sem];unfold zbt;simp(disch:=first|omega|(simp(disch:=first|omega|fail)only[go_sem]<;>omega)|fail)only[go_sem];unfold zcg;simp(disch:=first|omega|(simp(disch:=first|omega|fail)only[go_sem]<;>omega)|fail)only[go_sem];unfold zd9;by_cases hp:hd.pos<2199023255552
     ·simp(disch:=first|omega|(simp(disch:=first|omega|fail)only[go_sem,bh2]<;>omega)|fail)only[go_sem,bh2];simpa[hp]using q1
     ·simp(disch:=first|omega|(simp(disch:=first|omega|fail)only[go_sem,bh2]<;>omega)|fail)only[go_sem,bh2];simpa[hp]using q1
    rw[if_neg e16]at q1;refine zaa (λt w'=>w'=w4) ?_ ?_
    ·rintro t e w5 rfl;unfold zaV;exact q1
    ·simp(disch:=first|omega|(simp(disch:=first|omega|fail)only[go_sem,bS2]<;>omega)|fail)only[go_sem,bS2];unfold zaQ;simp(disch:=first|omega|(simp(disch:=first|omega|fail)only[go_sem]<;>omega)|fail)only[go_sem];unfold za0;simp(disch:=first|omega|(simp(disch:=first|omega|fail)only[go_sem]<;>omega)|fail)only[go_sem];unfold zba;simp(disch:=first|omega|(simp(disch:=first|omega|fail)only[go_sem]<;>omega)|fail)only[go_sem];unfold zbt;simp(disch:=first|omega|(simp(disch:=first|omega|fail)only[go_sem]<;>omega)|fail)only[go_sem];unfold zcg;simp(disch:=first|omega|(simp(disch:=first|omega|fail)only[go_sem]<;>omega)|fail)only[go_sem]
   ·simp(disch:=first|omega|(simp(disch:=first|omega|fail)only[go_sem,bN,b1,bS3]<;>omega)|fail)only[go_sem,bN,b1,bS3]
 ·simp(disch:=first|omega|(simp(disch:=first|omega|fail)only[go_sem,bS2]<;>omega)|fail)only[go_sem,bS2];refine zaa (λt w'=>t=[.bool false]/\w'=W2) ?_ ?_
  ·rintro t e w3 ⟨rfl,rfl⟩;unfold zbn;simp(disch:=first|omega|(simp(disch:=first|omega|fail)only[go_sem]<;>omega)|fail)only[go_sem];unfold zbY;refine zaa (λt w'=>t=[.bool false]/\w'=w3) ?_ ?_
   ·rintro t e w4 ⟨rfl,rfl⟩;unfold zbZ;simp(disch:=first|omega|(simp(disch:=first|omega|fail)only[go_sem]<;>omega)|fail)only[go_sem]
   ·simp(disch:=first|omega|(simp(disch:=first|omega|fail)only[go_sem]<;>omega)|fail)only[go_sem];unfold zb1;simp(disch:=first|omega|(simp(disch:=first|omega|fail)only[go_sem]<;>omega)|fail)only[go_sem];exact⟨trivial,trivial⟩
  ·simp(disch:=first|omega|(simp(disch:=first|omega|fail)only[go_sem,bS2]<;>omega)|fail)only[go_sem,bS2];exact⟨trivial,trivial⟩
end
def HB(m:SM.Mem):Prop:=∀k h,SM.hget m.hs k=some h->h.node<m.nodes.length
section
variable{w W:World}{K:Value->World->Prop}{B p:Nat}{m:SM.Mem}{F:Fp}{k:Int}{hd:SM.Hnd}{s:SM.Stp}{v:Value}
theorem zk2(w:World)(K:Value->Prop)(b:Nat)(k:Int):rd P (za3 T.aH (.map (some b)) (.int .i64 k) false) w K=optE (mlI (bk w b)) (λq=>K ((mget q.1 k).getD (.pointer none))) (farR P (za3 T.aH (.map (some b)) (.int .i64 k) false) w K):=luI1_rd w U.aw U.int zeroH K b k
theorem zlo(cx cy:Bool)(a:Option Addr)(L:Value->Prop):pu P (oBin .eql T.aT cx cy (.pointer a) (.pointer none)) L=L (.bool a.isNone):=zqw U.aD cx cy a
set_option maxHeartbeats 4000000 in
theorem zpi(h:MemS w B p m F)(hv:∃a c,v=.slice a s.data.length c)(mb:MB m)(hb:HB m)(hk:LkK w (m.speaks s) K):Cl P Fn.cG #[pt p 0,AG (zaC s v)] w K:=by
 apply zkQ;unfold zg5;obtain⟨W,eW,BW,zW,bS⟩:=zqe w s v;rw[zcJ,eW];obtain⟨av,cv,ev⟩:=hv;have bSv:=bS;rw[ev]at bSv;unfold SM.Mem.speaks at hk;by_cases c0:400<s.name.length\/400<s.other.length\/4096<s.data.length
 ·rw[if_pos c0]at hk;refine zaa (λ_ _=>False) (λ_ _ _ h=>h.elim) ?_;by_cases a1:400<s.name.length
  ·simp(disch:=first|omega|(simp(disch:=first|omega|fail)only[go_sem,bSv]<;>omega)|fail)only[go_sem,bSv];exact hk _ BW
  by_cases a2:400<s.other.length
  ·simp(disch:=first|omega|(simp(disch:=first|omega|fail)only[go_sem,bSv]<;>omega)|fail)only[go_sem,bSv];exact hk _ BW
  have a3:4096<s.data.length:=by
   rcases c0 with h|h|h
   ·exact absurd h a1
   ·exact absurd h a2
   ·exact h
  simp(disch:=first|omega|(simp(disch:=first|omega|fail)only[go_sem,bSv]<;>omega)|fail)only[go_sem,bSv];exact hk _ BW
 rw[if_neg c0]at hk;have a1:¬400<s.name.length:=λh=>c0 (.inl h);have a2:¬400<s.other.length:=λh=>c0 (.inr (.inl h));have a3:¬4096<s.data.length:=λh=>c0 (.inr (.inr h));refine zaa (λt w'=>w'=W) ?_ ?_
 ·rintro t e w1 rfl;unfold zf3;by_cases c1:0<=s.op/\s.op<=2
  ·rw[if_pos c1]at hk;obtain⟨c1a,c1b⟩:=c1;refine zaa (λ_ _=>False) (λ_ _ _ h=>h.elim) ?_;simp(disch:=first|omega|(simp(disch:=first|omega|fail)only[go_sem,bS]<;>omega)|fail)only[go_sem,bS];refine zlY (h.old BW) mb (by omega) λw2 B2=>?_;exact hk _ (BW.trans (B2.mono BW.size))
  rw[if_neg c1]at hk;by_cases c2:3<=s.op/\s.op<=11
  ·rw[if_pos c2]at hk;obtain⟨c2a,c2b⟩:=c2;refine zaa (λ_ _=>False) (λ_ _ _ h=>h.elim) ?_;simp(disch:=first|omega|(simp(disch:=first|omega|fail)only[go_sem,bS]<;>omega)|fail)only[go_sem,bS];unfold zce;simp(disch:=first|omega|(simp(disch:=first|omega|fail)only[go_sem,bS]<;>omega)|fail)only[go_sem,bS];refine zle (h.old BW) mb (by omega) (by omega) ⟨c2a,c2b⟩ λw2 B2=>?_;exact hk _ (BW.trans (B2.mono BW.size))
  rw[if_neg c2]at hk;refine zaa (λt w'=>w'=w1) ?_ ?_
  ·rintro t e w2 rfl;unfold zfK;obtain⟨vn,va,vd,q,ds,hl,c,hb',ρ,h⟩:=h;have h1:=h.old BW;have bm:=h1.bm;have bq:=h1.bq;have hm:=h1.hm s.h;cases hh:SM.hget m.hs s.h with
   |none=>rw[hh]at hk hm;simp only[Option.map_none]at hm;simp(disch:=first|omega|(simp(disch:=first|omega|fail)only[go_sem,bm,bS,zk2,bq,zcZ,hm,Option.getD_none,zlo,Option.isNone_none]<;>omega)|fail)only[go_sem,bm,bS,zk2,bq,zcZ,hm,Option.getD_none,zlo,Option.isNone_none];exact hk _ BW.drew
   |some hd=>rw[hh]at hk hm;simp only[Option.map_some]at hm;simp(disch:=first|omega|(simp(disch:=first|omega|fail)only[go_sem,bm,bS,zk2,bq,zcZ,hm,zlo,Option.isNone_some]<;>omega)|fail)only[go_sem,bm,bS,zk2,bq,zcZ,hm,zlo,Option.isNone_some];refine zl1 (h1.old (by repeat (first|exact Below.refl _ _|assumption|refine zag ?_ (by first|omega|(simp only[go_sem]<;>omega)) _|refine Below.alloc ?_ (by first|omega|(simp only[go_sem]<;>omega)) _|refine Below.drew ?_):Below w2.heap.size w2 w2.drew)) ⟨av,cv,ev⟩ hh (hb _ _ hh) mb (by omega) λw3 B3=>?_;exact hk _ ((BW.drew).trans (B3.mono BW.size))
  ·by_cases d1:0<=s.op
   ·by_cases d2:3<=s.op
    ·simp(disch:=first|omega|(simp(disch:=first|omega|fail)only[go_sem,bS]<;>omega)|fail)only[go_sem,bS];unfold zce;simp(disch:=first|omega|(simp(disch:=first|omega|fail)only[go_sem,bS]<;>omega)|fail)only[go_sem,bS]
    ·omega
   ·simp(disch:=first|omega|(simp(disch:=first|omega|fail)only[go_sem,bS]<;>omega)|fail)only[go_sem,bS];unfold zce;simp(disch:=first|omega|(simp(disch:=first|omega|fail)only[go_sem,bS]<;>omega)|fail)only[go_sem,bS]
 ·simp(disch:=first|omega|(simp(disch:=first|omega|fail)only[go_sem,bSv]<;>omega)|fail)only[go_sem,bSv]
set_option maxHeartbeats 4000000 in
theorem zs7(h:MemS w B p m F)(hv:BS w v s.data)(mb:MB m)(hb:HB m)(hop:s.op<0\/11<s.op)(fb:∀hd,SM.hget m.hs s.h=some hd->FB m hd s/\0<=hd.listed)(i:Int)(hk:zcx w B p F (m.doS i s) K):Cl P Fn.bX #[pt p 0,.int .i64 i,AG (zaC s v)] w K:=by
 apply zhJ;unfold zfv;obtain⟨W,eW,BW,zW,bS,bA⟩:=zjT w s v;rw[zcJ,M.ab,eW];unfold SM.Mem.doS at hk;rw[if_neg (by omega),if_neg (by omega)]at hk;refine zaa (λt w'=>w'=W) ?_ ?_
 ·rintro t e w1 rfl;unfold zi2;obtain⟨vn,va,vd,q,ds,hl,c,hb',ρ,h⟩:=h;have f:Fc w w1 B p m F vn va vd q ds hl c hb' ρ s v:=⟨h.old BW,h.lt,Tr.of_below BW F,bS,bA⟩;have fd:=f.drew;have bm:=f.h.bm;have bq:=f.h.bq;have hm:=f.h.hm s.h;have lA:=f.lA;cases hh:SM.hget m.hs s.h with
  |none=>rw[hh]at hk hm;simp only[Option.map_none]at hm;simp(disch:=first|omega|(simp only[sZb,sZa,sZd]<;>omega)|(simp(disch:=first|omega|(simp only[sZb,sZa,sZd]<;>omega)|fail)only[go_sem,bm,bS,zk2,bq,zcZ,hm,Option.getD_none];done)|fail)only[go_sem,zaN,zaL,zaJ,zaM,zaK,w_u8,zaI,Int.reduceToNat,Int.reducePow,Nat.reducePow,bm,bS,zk2,bq,zcZ,hm,Option.getD_none];refine zaa (λ_ _=>False) (λ_ _ _ h=>h.elim) ?_;simp(disch:=first|omega|(simp only[sZb,sZa,sZd]<;>omega)|(simp(disch:=first|omega|(simp only[sZb,sZa,sZd]<;>omega)|fail)only[go_sem,zlo,Option.isNone_none,bA];done)|fail)only[go_sem,zaN,zaL,zaJ,zaM,zaK,w_u8,zaI,Int.reduceToNat,Int.reducePow,Nat.reducePow,zlo,Option.isNone_none,bA];exact zfD fd fd.h.toS fd.tr hk
  |some hd=>
   rw[hh]at hk hm;simp only[Option.map_some]at hm;simp only at hk;obtain⟨fb1,fb2⟩:=fb hd hh;simp(disch:=first|omega|(simp only[sZb,sZa,sZd]<;>omega)|(simp(disch:=first|omega|(simp only[sZb,sZa,sZd]<;>omega)|fail)only[go_sem,bm,bS,zk2,bq,zcZ,hm,Option.getD_some];done)|fail)only[go_sem,zaN,zaL,zaJ,zaM,zaK,w_u8,zaI,Int.reduceToNat,Int.reducePow,Nat.reducePow,bm,bS,zk2,bq,zcZ,hm,Option.getD_some];by_cases c0:s.op<12\/23<s.op
   ·rw[if_pos c0]at hk;refine zaa (λ_ _=>False) (λ_ _ _ h=>h.elim) ?_;rcases c0 with c0|c0
    ·simp(disch:=first|omega|(simp only[sZb,sZa,sZd]<;>omega)|(simp(disch:=first|omega|(simp only[sZb,sZa,sZd]<;>omega)|fail)only[go_sem,zlo,Option.isNone_some,bA,bS];done)|fail)only[go_sem,zaN,zaL,zaJ,zaM,zaK,w_u8,zaI,Int.reduceToNat,Int.reducePow,Nat.reducePow,zlo,Option.isNone_some,bA,bS];exact zfD fd fd.h.toS fd.tr hk
    ·simp(disch:=first|omega|(simp only[sZb,sZa,sZd]<;>omega)|(simp(disch:=first|omega|(simp only[sZb,sZa,sZd]<;>omega)|fail)only[go_sem,zlo,Option.isNone_some,bA,bS];done)|fail)only[go_sem,zaN,zaL,zaJ,zaM,zaK,w_u8,zaI,Int.reduceToNat,Int.reducePow,Nat.reducePow,zlo,Option.isNone_some,bA,bS];exact zfD fd fd.h.toS fd.tr hk
   ·rw[if_neg c0]at hk;refine zaa (λt w'=>w'=w1.drew) ?_ ?_
    ·rintro t e w2 rfl;unfold ziP;simp(disch:=first|omega|(simp only[sZb,sZa,sZd]<;>omega)|(simp(disch:=first|omega|(simp only[sZb,sZa,sZd]<;>omega)|fail)only[go_sem,bS];done)|fail)only[go_sem,zaN,zaL,zaJ,zaM,zaK,w_u8,zaI,Int.reduceToNat,Int.reducePow,Nat.reducePow,bS];refine zsp fd.h (zcs hv (BW.drew) (Nat.le_refl _)) hh fb1 fb2 mb (by omega) λw2 F2 c2 h2 t2 a2=>?_;have t02:=fd.tr.trans t2;have lA':w.heap.size+1<w1.drew.heap.size:=lA;have bA2:bk w2 (w.heap.size+1)=some (CB ansZ T.ab):=by rw[t2.kp.block _ lA' (λe=>fd.nA (fd.h.sub _ e))];exact bA
     have lA2:=zaj bA2;obtain⟨x,y,z,rfl,b1,b2,b3,b4⟩:=id a2;have ox:=ze0 b1;have oy:y.oneCell'=true:=by rcases b2 with⟨_,_,_,rfl,_⟩|⟨_,_,_,_,rfl⟩<;>rfl
     have oz:z.oneCell'=true:=by rcases b3 with⟨_,_,_,rfl,_⟩|⟨_,_,_,_,rfl⟩<;>rfl
     simp(disch:=first|omega|(simp only[sZb,sZa,sZd]<;>omega)|(simp(disch:=first|omega|(simp only[sZb,sZa,sZd]<;>omega)|fail)only[go_sem,bA2,ox,oy,oz];done)|fail)only[go_sem,zaN,zaL,zaJ,zaM,zaK,w_u8,zaI,Int.reduceToNat,Int.reducePow,Nat.reducePow,bA2,ox,oy,oz];have nA2:¬F2.use (w.heap.size+1):=λe=>fd.nA ((t2.st _ lA').2 e);obtain⟨e1,e2,e3⟩:=zbG h2 t02 (A:=w.heap.size+1) (by omega) nA2 (a2.less (by omega)) (CB (zbq (m.fileS s.h hd s).2 x y z) T.ab);exact hk _ _ _ e1 e2 e3
    ·simp(disch:=first|omega|(simp only[sZb,sZa,sZd]<;>omega)|(simp(disch:=first|omega|(simp only[sZb,sZa,sZd]<;>omega)|fail)only[go_sem,zlo,Option.isNone_some,bS];done)|fail)only[go_sem,zaN,zaL,zaJ,zaM,zaK,w_u8,zaI,Int.reduceToNat,Int.reducePow,Nat.reducePow,zlo,Option.isNone_some,bS]
 ·rcases hop with c0|c0
  ·simp(disch:=first|omega|(simp only[sZb,sZa,sZd]<;>omega)|(simp(disch:=first|omega|(simp only[sZb,sZa,sZd]<;>omega)|fail)only[go_sem,bS];done)|fail)only[go_sem,zaN,zaL,zaJ,zaM,zaK,w_u8,zaI,Int.reduceToNat,Int.reducePow,Nat.reducePow,bS];unfold zeb;simp(disch:=first|omega|(simp only[sZb,sZa,sZd]<;>omega)|(simp(disch:=first|omega|(simp only[sZb,sZa,sZd]<;>omega)|fail)only[go_sem,bS];done)|fail)only[go_sem,zaN,zaL,zaJ,zaM,zaK,w_u8,zaI,Int.reduceToNat,Int.reducePow,Nat.reducePow,bS]
  ·simp(disch:=first|omega|(simp only[sZb,sZa,sZd]<;>omega)|(simp(disch:=first|omega|(simp only[sZb,sZa,sZd]<;>omega)|fail)only[go_sem,bS];done)|fail)only[go_sem,zaN,zaL,zaJ,zaM,zaK,w_u8,zaI,Int.reduceToNat,Int.reducePow,Nat.reducePow,bS];unfold zeb;simp(disch:=first|omega|(simp only[sZb,sZa,sZd]<;>omega)|(simp(disch:=first|omega|(simp only[sZb,sZa,sZd]<;>omega)|fail)only[go_sem,bS];done)|fail)only[go_sem,zaN,zaL,zaJ,zaM,zaK,w_u8,zaI,Int.reduceToNat,Int.reducePow,Nat.reducePow,bS]
end
theorem zlT{w:World}{B g n size:Nat}{e:TypeId}{l:List Value}(hb:bk w g=some (CB l e))(hl:l.length=n*size)(hB:B<=g)(hn:n<=maxLen):w.ownsRow B e size (sl g 0 n n) n l:=by refine⟨hl,.inr ⟨g,n,l.toArray,rfl,hB,hb,Nat.le_refl _,hn,by simpa using hl,?_⟩⟩;rw[<-hl];simp
def SM0:SM.Mem:=⟨[[47]],[0],[⟨true,2147484141,[],0,[47]⟩],[]⟩
section
variable{w w':World}{K:Value->World->Prop}{B p:Nat}{m:SM.Mem}{F:Fp}{vn va vd:Value}{q:Nat}{ds:List Value}{hl:ML Int}{c:Nat}{hb:Int->Nat}{ρ:Nat->Rl}
theorem zpd(hB:B<=w.heap.size)(hk:∀w' p F,MemS w' B p SM0 F->(∀b,F.use b->w.heap.size<=b)->Below w.heap.size w w'->K (pt p 0) w'):Cl P Fn.dp #[] w K:=by
 apply znK;unfold zkj;rw[zbc (z:=S []) _ _ U.ae (by kernel_rfl) rfl];rw[zbc (z:=.int .i64 0) _ _ U.au (by kernel_rfl) rfl];simp(disch:=first|omega|(simp(disch:=first|omega|fail)only[go_sem]<;>omega)|fail)only[go_sem];rw[zbg (z:=AG (zbM ⟨false,0,[],0,[]⟩ (.slice none 0 0))) (size:=5) _ _ U.ao zt4 (by omega) (by omega) rfl];rw[mkI];simp(disch:=first|omega|(simp(disch:=first|omega|fail)only[go_sem]<;>omega)|fail)only[go_sem];refine hk _ (w.heap.size+4) ⟨λb=>w.heap.size<=b/\b<w.heap.size+5,λb=>w.heap.size<=b/\b<w.heap.size+5⟩ ?_ (λb hb=>hb.1) ?_
 ·have f0:bk (((((w.alloc (CB [S [47]] T.string)).alloc (CB [Value.int IntKind.i64 0] T.int)).alloc (CB [Value.bool true,Value.int IntKind.i64 2147484141,Value.slice none 0 0,Value.int IntKind.i64 0,S [47]] T.ag)).alloc (MO emI [] 0)).alloc (CB [sl w.heap.size 0 1 1,sl (w.heap.size+1) 0 1 1,sl (w.heap.size+1+1) 0 1 1,Value.map (some (w.heap.size+1+1+1))] T.aA)) w.heap.size=some (CB [S [47]] T.string):=by rw[zat _ _ _ (by simp only[go_sem];omega),zat _ _ _ (by simp only[go_sem];omega),zat _ _ _ (by simp only[go_sem];omega),zat _ _ _ (by simp only[go_sem];omega),zaf _ _ _ rfl]
  have f1:bk (((((w.alloc (CB [S [47]] T.string)).alloc (CB [Value.int IntKind.i64 0] T.int)).alloc (CB [Value.bool true,Value.int IntKind.i64 2147484141,Value.slice none 0 0,Value.int IntKind.i64 0,S [47]] T.ag)).alloc (MO emI [] 0)).alloc (CB [sl w.heap.size 0 1 1,sl (w.heap.size+1) 0 1 1,sl (w.heap.size+1+1) 0 1 1,Value.map (some (w.heap.size+1+1+1))] T.aA)) (w.heap.size+1)=some (CB [.int .i64 0] T.int):=by rw[zat _ _ _ (by simp only[go_sem];omega),zat _ _ _ (by simp only[go_sem];omega),zat _ _ _ (by simp only[go_sem];omega),zaf _ _ _ (by simp only[go_sem])]
  have f2:bk (((((w.alloc (CB [S [47]] T.string)).alloc (CB [Value.int IntKind.i64 0] T.int)).alloc (CB [Value.bool true,Value.int IntKind.i64 2147484141,Value.slice none 0 0,Value.int IntKind.i64 0,S [47]] T.ag)).alloc (MO emI [] 0)).alloc (CB [sl w.heap.size 0 1 1,sl (w.heap.size+1) 0 1 1,sl (w.heap.size+1+1) 0 1 1,Value.map (some (w.heap.size+1+1+1))] T.aA)) (w.heap.size+1+1)=some (CB (zbM ⟨true,2147484141,[],0,[47]⟩ (.slice none 0 0)) T.ag):=by rw[zat _ _ _ (by simp only[go_sem];omega),zat _ _ _ (by simp only[go_sem];omega),zaf _ _ _ (by simp only[go_sem])]
  have f3:bk (((((w.alloc (CB [S [47]] T.string)).alloc (CB [Value.int IntKind.i64 0] T.int)).alloc (CB [Value.bool true,Value.int IntKind.i64 2147484141,Value.slice none 0 0,Value.int IntKind.i64 0,S [47]] T.ag)).alloc (MO emI [] 0)).alloc (CB [sl w.heap.size 0 1 1,sl (w.heap.size+1) 0 1 1,sl (w.heap.size+1+1) 0 1 1,Value.map (some (w.heap.size+1+1+1))] T.aA)) (w.heap.size+1+1+1)=some (MO emI [] 0):=by rw[zat _ _ _ (by simp only[go_sem];omega),zaf _ _ _ (by simp only[go_sem])]
  have f4:bk (((((w.alloc (CB [S [47]] T.string)).alloc (CB [Value.int IntKind.i64 0] T.int)).alloc (CB [Value.bool true,Value.int IntKind.i64 2147484141,Value.slice none 0 0,Value.int IntKind.i64 0,S [47]] T.ag)).alloc (MO emI [] 0)).alloc (CB [sl w.heap.size 0 1 1,sl (w.heap.size+1) 0 1 1,sl (w.heap.size+1+1) 0 1 1,Value.map (some (w.heap.size+1+1+1))] T.aA)) (w.heap.size+4)=some (CB [sl w.heap.size 0 1 1,sl (w.heap.size+1) 0 1 1,sl (w.heap.size+1+1) 0 1 1,Value.map (some (w.heap.size+1+1+1))] T.aA):=by rw[zaf _ _ _ (by simp only[go_sem])]
  have fz:(((((w.alloc (CB [S [47]] T.string)).alloc (CB [Value.int IntKind.i64 0] T.int)).alloc (CB [Value.bool true,Value.int IntKind.i64 2147484141,Value.slice none 0 0,Value.int IntKind.i64 0,S [47]] T.ag)).alloc (MO emI [] 0)).alloc (CB [sl w.heap.size 0 1 1,sl (w.heap.size+1) 0 1 1,sl (w.heap.size+1+1) 0 1 1,Value.map (some (w.heap.size+1+1+1))] T.aA)).heap.size=w.heap.size+5:=by simp only[go_sem]
  generalize ((((w.alloc (CB [S [47]] T.string)).alloc (CB [Value.int IntKind.i64 0] T.int)).alloc (CB [Value.bool true,Value.int IntKind.i64 2147484141,Value.slice none 0 0,Value.int IntKind.i64 0,S [47]] T.ag)).alloc (MO emI [] 0)).alloc (CB [sl w.heap.size 0 1 1,sl (w.heap.size+1) 0 1 1,sl (w.heap.size+1+1) 0 1 1,Value.map (some (w.heap.size+1+1+1))] T.aA)=W at*;generalize w.heap.size=n at*;have ms:(1:Nat)<=maxLen:=by simp only[maxLen];omega
  refine⟨sl n 0 1 1,sl (n+1) 0 1 1,sl (n+1+1) 0 1 1,n+1+1+1,[.slice none 0 0],[],0,λ_=>0,λb=>if b=n then .nms else if b=n+1 then .ats else if b=n+2 then .nds else if b=n+3 then .hmp else if b=n+4 then .mem else .no,?_⟩;refine⟨λb=>?_,λb hb=>hb,λb hb=>by have:=hb.2;omega,λb hb=>by have:=hb.1;omega,?_,f4,zlT f0 rfl hB ms,λb hb=>?_,zlT f1 rfl (by omega) ms,λb hb=>?_,zlT f2 rfl (by omega) ms,λb hb=>?_,rfl,λi h1 h2=>?_,?_,f3,MWF.nil 0,λk=>rfl,λk h hk=>by cases hk⟩
  ·show(n<=b/\b<n+5)↔_;split
   ·exact⟨λ_ h=>(by cases h),λ_=>by omega⟩
   ·split
    ·exact⟨λ_ h=>(by cases h),λ_=>by omega⟩
    ·split
     ·exact⟨λ_ h=>(by cases h),λ_=>by omega⟩
     ·split
      ·exact⟨λ_ h=>(by cases h),λ_=>by omega⟩
      ·split
       ·exact⟨λ_ h=>(by cases h),λ_=>by omega⟩
       ·exact⟨λh=>by omega,λh=>absurd rfl h⟩
  ·show(if n+4=n then Rl.nms else if n+4=n+1 then .ats else if n+4=n+2 then .nds else if n+4=n+3 then .hmp else if n+4=n+4 then .mem else .no)=.mem;rw[if_neg (by omega),if_neg (by omega),if_neg (by omega),if_neg (by omega),if_pos rfl]
  ·have e:n=b:=Option.some.inj hb;subst e;show(if n=n then Rl.nms else _)=.nms;rw[if_pos rfl]
  ·have e:n+1=b:=Option.some.inj hb;subst e;show(if n+1=n then Rl.nms else if n+1=n+1 then .ats else _)=.ats;rw[if_neg (by omega),if_pos rfl]
  ·have e:n+1+1=b:=Option.some.inj hb;subst e;show(if n+1+1=n then Rl.nms else if n+1+1=n+1 then .ats else if n+1+1=n+2 then .nds else _)=.nds;rw[if_neg (by omega),if_neg (by omega),if_pos (by omega)]
  ·have h0:i=0:=by simp at h1;omega
   subst h0;exact⟨zb0 _,λb hb=>by cases hb⟩
  ·show(if n+1+1+1=n then Rl.nms else if n+1+1+1=n+1 then .ats else if n+1+1+1=n+2 then .nds else if n+1+1+1=n+3 then .hmp else _)=.hmp;rw[if_neg (by omega),if_neg (by omega),if_neg (by omega),if_pos (by omega)]
 ·repeat (first|exact Below.refl _ _|assumption|refine zag ?_ (by first|omega|(simp only[go_sem]<;>omega)) _|refine Below.alloc ?_ (by first|omega|(simp only[go_sem]<;>omega)) _|refine Below.drew ?_)
theorem MemX.newHnd(h:MemX w B p m F vn va vd q ds hl c hb ρ)(k:Int){b:Nat}{hd:SM.Hnd}(hbb:bk w b=some (CB (hndC hd) T.am))(hB:B<=b)(hF:¬F.use b):
  MemX (setb w q (MO emI (zic hl k (pt b 0) c) (zjn hl k c))) B p (m.setH k hd) ⟨λx=>F.own x\/x=b,λx=>F.use x\/x=b⟩ vn va vd q ds (zic hl k (pt b 0) c) (zjn hl k c) (λj=>if j=k then b else hb j) (λx=>if x=b then .hnd k else ρ x)/\
  Kp w (setb w q (MO emI (zic hl k (pt b 0) c) (zjn hl k c))) F.own:=by
 have kp:=Kp.setb w q (MO emI (zic hl k (pt b 0) c) (zjn hl k c));have hG:∀x,x<w.heap.size->x=q->ρ x=.hmp:=λx _ e=>by rw[e];exact h.rq
 have l:=h.only kp hG (λe=>by cases e);have lq:q<w.heap.size:=zaj h.bq;have nb:∀x,ρ x≠ .no->x≠b:=λx hx e=>hF (by rw[<-e];exact h.sub x ((h.own x).2 hx));have rb:ρ b=.no:=by
  by_cases e:ρ b=.no
  ·exact e
  ·exact absurd (h.sub b ((h.own b).2 e)) hF
 have rr:∀x,ρ x≠ .no->(if x=b then Rl.hnd k else ρ x)=ρ x:=λx hx=>if_neg (nb x hx);refine⟨⟨λx=>?_,λx hx=>hx.imp (h.sub x) id,λx hx=>?_,λx hx=>?_,?_,l.bm (λe=>by cases e),l.on (λe=>by cases e),λx hx=>?_,l.oa (λe=>by cases e),λx hx=>?_,l.od (λe=>by cases e),λx hx=>?_,h.dl,λi h1 h2=>?_,?_,zap _ _ _ _ rfl lq,h.wf.put k _,λj=>?_,λj y hy=>?_⟩,zkV kp λx _ e=>(h.own x).2 (by rw[e,h.rq];decide)⟩
 ·show F.own x\/x=b↔(if x=b then Rl.hnd k else ρ x)≠ .no;by_cases e:x=b
  ·rw[if_pos e];exact⟨λ_ h=>(by cases h),λ_=>.inr e⟩
  ·rw[if_neg e,<-h.own x];exact⟨λhx=>hx.resolve_right e,.inl⟩
 ·rw[sZb];rcases hx with hx|hx
  ·exact h.lt x hx
  ·rw[hx];exact zaj hbb
 ·rcases hx with hx|hx
  ·exact h.ge x hx
  ·rw[hx];exact hB
 ·show(if p=b then Rl.hnd k else ρ p)=.mem;rw[rr p (by rw[h.rp];decide)];exact h.rp
 ·show(if x=b then Rl.hnd k else ρ x)=.nms;have:=h.rn x hx;rw[rr x (by rw[this];decide)];exact this
 ·show(if x=b then Rl.hnd k else ρ x)=.ats;have:=h.ra x hx;rw[rr x (by rw[this];decide)];exact this
 ·show(if x=b then Rl.hnd k else ρ x)=.nds;have:=h.rd x hx;rw[rr x (by rw[this];decide)];exact this
 ·obtain⟨d1,d2⟩:=l.db i h1 h2;refine⟨d1,λx hx=>⟨.inl (d2 x hx).1,?_⟩⟩;show(if x=b then Rl.hnd k else ρ x)=.no;rw[if_neg λe=>hF (by rw[<-e];exact(d2 x hx).1)];exact(d2 x hx).2
 ·show(if q=b then Rl.hnd k else ρ q)=.hmp;rw[rr q (by rw[h.rq];decide)];exact h.rq
 ·rw[zjc];show _=(SM.hget (SM.hput m.hs k hd) j).map _;rw[SM.zbP];by_cases e:j=k
  ·rw[if_pos e,if_pos e];simp[e]
  ·rw[if_neg e,if_neg e,h.hm j];simp[e]
 ·have hy':SM.hget (SM.hput m.hs k hd) j=some y:=hy;rw[SM.zbP]at hy';by_cases e:j=k
  ·rw[if_pos e]at hy';injection hy' with hy';subst hy' e;simp only[if_true];exact⟨trivial,by rw[zao _ _ _ _ (λe2=>nb q (by rw[h.rq];decide) e2.symm)];exact hbb⟩
  ·rw[if_neg e]at hy';obtain⟨r1,b1⟩:=h.bh j y hy';simp only[if_neg e];rw[rr _ (by rw[r1];exactλe=>by cases e)];exact⟨r1,l.bh j y hy' (λe2=>by cases e2)⟩
end
structure OpX(w W:World)(B p:Nat)(m:SM.Mem)(F0 F:Fp)(s:SM.Stp)(v:Value)(hb:Nat)(hd:SM.Hnd):Prop where
 h:MemS W B p m F
 t:Tr w W F0 F
 S:bk W w.heap.size=some (CB (zaC s v) T.ae)
 A:bk W (w.heap.size+1)=some (CB ansZ T.ab)
 H:bk W hb=some (CB (hndC hd) T.am)
 hl:w.heap.size+2<=hb
 nS:¬F.use w.heap.size
 nA:¬F.use (w.heap.size+1)
 nH:¬F.use hb
section
variable{w W W':World}{K:Value->World->Prop}{B p:Nat}{m m':SM.Mem}{F0 F F':Fp}{s:SM.Stp}{v:Value}{hb:Nat}{hd hd':SM.Hnd}
theorem OpX.step(o:OpX w W B p m F0 F s v hb hd)(h':MemS W' B p m' F')(t':Tr W W' F F'):OpX w W' B p m' F0 F' s v hb hd:=by have so:∀b,F.own b->F.use b:=o.h.sub;have g:∀b,b<W.heap.size->¬F.use b->bk W' b=bk W b/\¬F'.use b:=λb hb hn=>⟨t'.kp.block b hb λe=>hn (so b e),λe=>hn ((t'.st b hb).2 e)⟩;obtain⟨s1,s2⟩:=g _ (zaj o.S) o.nS;obtain⟨a1,a2⟩:=g _ (zaj o.A) o.nA;obtain⟨h1,h2⟩:=g _ (zaj o.H) o.nH;exact⟨h',o.t.trans t',s1.trans o.S,a1.trans o.A,h1.trans o.H,o.hl,s2,a2,h2⟩
theorem OpX.below(o:OpX w W B p m F0 F s v hb hd)(b:Below W.heap.size W W'):OpX w W' B p m F0 F s v hb hd:=o.step (o.h.old b) (Tr.of_below b F)
theorem OpX.setH(o:OpX w W B p m F0 F s v hb hd):OpX w (setb W hb (CB (hndC hd') T.am)) B p m F0 F s v hb hd':=by
 have k:=Kp.setb W hb (CB (hndC hd') T.am);have l:=o.hl;refine⟨o.h.frame k λb hb e=>o.nH (by rw[<-e];exact hb),⟨o.t.kp.trans k λx hx e=>by omega,o.t.st⟩,?_,?_,zap _ _ _ _ rfl (zaj o.H),l,o.nS,o.nA,o.nH⟩
 ·rw[zao _ _ _ _ (by omega)];exact o.S
 ·rw[zao _ _ _ _ (by omega)];exact o.A
theorem OpX.err(o:OpX w W B p m F0 F s v hb hd){e:Int}(hk:zcx w B p F0 (m,SM.Ans.err e) K):
  pu P (zaw T.ab #[(0,.int .i64 e)]) λt=>st P (zai T.ab (pt (w.heap.size+1) 0) t) W λ_ w17=>rsl P T.ab (pt (w.heap.size+1) 0) w17 λr=>K (tup [r]) w17:=by
 have hA:=o.A;have lA:=zaj hA;simp(disch:=first|omega|(simp(disch:=first|omega|fail)only[go_sem,hA]<;>omega)|fail)only[go_sem,hA];obtain⟨e1,e2,e3⟩:=zbG o.h o.t (A:=w.heap.size+1) (by omega) o.nA (AnsN.plain _ _ _ rfl rfl rfl:AnsN W (w.heap.size+1+1) F.use (SM.Ans.err e) _) (CB (zbq (SM.Ans.err e) (.slice none 0 0) (.slice none 0 0) (.slice none 0 0)) T.ab);exact hk _ _ _ e1 e2 e3
theorem zqD(o:OpX w W B p m F0 F s v hb hd)(hB:B<=hb){i:Int}(hk:zcx w B p F0 (m.setH i hd,SM.Ans.z) K)(t:List Value)(u:Env):zeu (pt p 0) (.int .i64 i) (pt hb 0) (pt (w.heap.size+1) 0) K t u W:=by
 unfold zeu;obtain⟨vn,va,vd,q,ds,hl',c,hbb,ρ,h⟩:=o.h;have bm:=h.bm;have bq:=h.bq;simp(disch:=first|omega|(simp(disch:=first|omega|fail)only[go_sem,bm]<;>omega)|fail)only[go_sem,bm];rw[upI _ U.aw U.int,bq,ztS,zcZ];obtain⟨h5,k5⟩:=h.newHnd i o.H hB o.nH;have hl:=o.hl;have lq:q<W.heap.size:=zaj bq;have oq:F.own q:=(h.own q).2 (by rw[h.rq];decide);have nq:q≠w.heap.size+1:=λe=>o.nA (by rw[<-e];exact h.sub q oq);have hA:bk (setb W q (MO emI (zic hl' i (pt hb 0) c) (zjn hl' i c))) (w.heap.size+1)=some (CB ansZ T.ab):=by rw[zao _ _ _ _ (λe=>nq e.symm)];exact o.A
 have T5:Tr w (setb W q (MO emI (zic hl' i (pt hb 0) c) (zjn hl' i c))) F0 ⟨λx=>F.own x\/x=hb,λx=>F.use x\/x=hb⟩:=⟨o.t.kp.trans k5 λx hx e=>(o.t.st x hx).1 e,λx hx=>⟨λe=>e.elim (o.t.st x hx).1 λe=>by omega,λe=>e.elim (o.t.st x hx).2 λe=>by omega⟩⟩
 have nA5:¬(F.use (w.heap.size+1)\/w.heap.size+1=hb):=λe=>e.elim o.nA λe=>by omega
 generalize setb W q (MO emI (zic hl' i (pt hb 0) c) (zjn hl' i c))=W5 at*;have lA:=zaj hA;simp(disch:=first|omega|(simp(disch:=first|omega|fail)only[go_sem,hA]<;>omega)|fail)only[go_sem,hA];obtain⟨e1,e2,e3⟩:=zbG (h5.toS) T5 (A:=w.heap.size+1) (by omega) nA5 (AnsN.plain _ _ _ rfl rfl rfl:AnsN W5 (w.heap.size+1+1) _ SM.Ans.z _) (CB (zbq SM.Ans.z (.slice none 0 0) (.slice none 0 0) (.slice none 0 0)) T.ab);exact hk _ _ _ e1 e2 e3
theorem zqQ(o:OpX w W B p m F0 F s v hb hd){l:Str}(hr:(m.find [47]).isSome=true)(mb:MB m)(hl:l.length<=900){k1:List Value->World->Prop}
  (hk:∀W' F',OpX w W' B p ((m.parents l 0).add l ⟨false,268435456,[],0,[]⟩) F0 F' s v hb {hd with node:=(m.parents l 0).nodes.length}->k1 [] W'):zev (pt p 0) (S l) W (pt hb 0) k1:=by
 unfold zev;rw[C.ar];refine zgz o.h hr mb.la hl mb.nn mb.dn λw1 F1 h1 t1=>?_;have o1:=o.step h1 t1;obtain⟨q1,q2,q3⟩:=SM.zcN m 0 (l.length+2) l;have n1:=mb.nn;have n2:=mb.dn;simp(disch:=first|omega|(simp(disch:=first|omega|fail)only[go_sem]<;>omega)|fail)only[go_sem];refine zlA (n:=⟨false,268435456,[],0,[]⟩) (dv:=.slice none 0 0) h1 (by show(m.parentsF l 0 (l.length+2)).names.length<=_;omega) (by show(m.parentsF l 0 (l.length+2)).nodes.length<=_;omega) (q3 mb.la) (zb0 _) (λb e=>by cases e) λw2 F2 h2 t2=>?_;have o2:=o1.step h2 t2;have hH:=o2.H;have lH:=zaj hH;simp(disch:=first|omega|(simp(disch:=first|omega|fail)only[go_sem,hH]<;>omega)|fail)only[go_sem,hH];exact hk _ _ (o2.setH (hd':={hd with node:=(m.parents l 0).nodes.length}))
theorem zqB(o:OpX w W B p m F0 F s v hb hd)(hv:v.oneCell'=true){l:Str}(hr:(m.find [47]).isSome=true)(mb:MB m)(hl:l.length<=900){k1:List Value->World->Prop}
  (hk:∀W' F',OpX w W' B p ((m.parents l 0).add l ⟨false,andI s.perm SM.zal,[],0,[]⟩) F0 F' s v hb {hd with node:=(m.parents l 0).nodes.length}->k1 [] W'):zep (pt p 0) (S l) W (pt w.heap.size 0) (pt hb 0) k1:=by
 unfold zep;rw[C.ar];refine zgz o.h hr mb.la hl mb.nn mb.dn λw1 F1 h1 t1=>?_;have o1:=o.step h1 t1;obtain⟨q1,q2,q3⟩:=SM.zcN m 0 (l.length+2) l;have n1:=mb.nn;have n2:=mb.dn;have hS:=o1.S;simp(disch:=first|omega|(simp(disch:=first|omega|fail)only[go_sem,hS]<;>omega)|fail)only[go_sem,hS];refine zlA (n:=⟨false,andI s.perm SM.zal,[],0,[]⟩) (dv:=.slice none 0 0) h1 (by show(m.parentsF l 0 (l.length+2)).names.length<=_;omega) (by show(m.parentsF l 0 (l.length+2)).nodes.length<=_;omega) (q3 mb.la) (zb0 _) (λb e=>by cases e) λw2 F2 h2 t2=>?_;have o2:=o1.step h2 t2;have hH:=o2.H;have lH:=zaj hH;simp(disch:=first|omega|(simp(disch:=first|omega|fail)only[go_sem,hH]<;>omega)|fail)only[go_sem,hH];exact hk _ _ (o2.setH (hd':={hd with node:=(m.parents l 0).nodes.length}))
theorem zqM(o:OpX w W B p m F0 F s v hb hd){b:Bool}(he:b=false->zcx w B p F0 (m,SM.Ans.err 1) K){k1:List Value->World->Prop}(hk:∀W',OpX w W' B p m F0 F s v hb {hd with ro:=true}->b=true->k1 [] W'):zeD (pt hb 0) k1 (.bool b) (pt (w.heap.size+1) 0) W K:=by
 unfold zeD;cases b with
 |false=>refine zaa (λ_ _=>False) (λ_ _ _ h=>h.elim) ?_;have:=o.err (he rfl);rw[show pu P (oUn .not (.bool false))=pu P (oUn .not (.bool false))from rfl];simp(disch:=first|omega|(simp(disch:=first|omega|fail)only[go_sem]<;>omega)|fail)only[go_sem];have hA:=o.A;simp(disch:=first|omega|(simp(disch:=first|omega|fail)only[go_sem,hA]<;>omega)|fail)only[go_sem,hA]at this⊢;exact this
 |true=>refine zaa (λt w'=>w'=W) ?_ (by simp(disch:=first|omega|(simp(disch:=first|omega|fail)only[go_sem]<;>omega)|fail)only[go_sem]);rintro t e w1 rfl;unfold zhc;have hH:=o.H;have lH:=zaj hH;simp(disch:=first|omega|(simp(disch:=first|omega|fail)only[go_sem,hH]<;>omega)|fail)only[go_sem,hH];exact hk _ (o.setH (hd':={hd with ro:=true})) rfl
theorem zqT(o:OpX w W B p m F0 F s v hb hd)(hn:hd.node<m.nodes.length){k1:List Value->World->Prop}(hk:∀W',OpX w W' B p (m.setNode hd.node {m.node hd.node with data:=[],time:=0}) F0 F s v hb hd->k1 [] W'):zen (pt p 0) W (pt hb 0) k1:=by
 unfold zen;have o':=o;obtain⟨vn,va,vd,q,ds,hl',c,hbb,ρ,h⟩:=o.h;have bm:=h.bm;have hH:=o.H;obtain⟨g,cur,na,hcl,ht⟩:=h.node hn;have ix:=na.ix;have bg:=na.bg;have lg:=zaj bg;have c2:=na.c2;have c3:=na.c3;have len:=na.len;have len2:hd.node*5+5<=(cur.set (hd.node*5+2) (Value.slice none 0 0)).length:=by rw[List.length_set];exact len
 simp(disch:=first|omega|(simp only[sZb,sZa,sZd]<;>omega)|(simp(disch:=first|omega|(simp only[sZb,sZa,sZd]<;>omega)|fail)only[go_sem,bm,hH,ix,bg,c2,c3];done)|fail)only[go_sem,zaN,zaL,zaJ,zaM,zaK,w_u8,zaI,Int.reduceToNat,Int.reducePow,Nat.reducePow,bm,hH,ix,bg,c2,c3];have dD:=h.old (show Below W.heap.size W W.drew by repeat (first|exact Below.refl _ _|assumption|refine zag ?_ (by first|omega|(simp only[go_sem]<;>omega)) _|refine Below.alloc ?_ (by first|omega|(simp only[go_sem]<;>omega)) _|refine Below.drew ?_));have na':zcP W.drew vd m hd.node (ds[hd.node]'(by rw[h.dl];exact hn)) g cur:=⟨na.ob,na.bg,na.len,na.ix,na.row,na.c0,na.c1,na.c2,na.c3,na.c4⟩;obtain⟨h3,n5,t3,q1,q2⟩:=dD.store (j:=2) (x:=.slice none 0 0) (n':={m.node hd.node with data:=[]}) (d':=.slice none 0 0) hn na' rfl hcl ht (by omega) rfl ⟨zb0 _,λb hb=>by cases hb⟩;have hi3:hd.node<(m.setNode hd.node {m.node hd.node with data:=[]}).nodes.length:=by simpa[SM.Mem.setNode]using hn
 have en:(m.setNode hd.node {m.node hd.node with data:=[]}).node hd.node={m.node hd.node with data:=[]}:=by rw[zdA hi3];simp[SM.Mem.setNode]
 have ed:((ds.set hd.node (.slice none 0 0))[hd.node]'(by rw[h3.dl];exact hi3))=.slice none 0 0:=by simp
 obtain⟨h4,n6,t4,q3,q4⟩:=h3.store (j:=3) (x:=.int .i64 0) (n':={m.node hd.node with data:=[],time:=0}) (d':=.slice none 0 0) hi3 n5 ed.symm q1 q2 (by omega) (by rw[en];rfl) ⟨zb0 _,λb hb=>by cases hb⟩;have em:(m.setNode hd.node {m.node hd.node with data:=[]}).setNode hd.node {m.node hd.node with data:=[],time:=0}=m.setNode hd.node {m.node hd.node with data:=[],time:=0}:=by unfold SM.Mem.setNode;simp
 rw[em]at h4;exact hk _ (o.step h4.toS (((Tr.of_below (show Below W.heap.size W W.drew by repeat (first|exact Below.refl _ _|assumption|refine zag ?_ (by first|omega|(simp only[go_sem]<;>omega)) _|refine Below.alloc ?_ (by first|omega|(simp only[go_sem]<;>omega)) _|refine Below.drew ?_)) F).trans t3).trans t4))
theorem zqK(o:OpX w W B p m F0 F s v hb hd)(hn:hd.node<m.nodes.length)(hdl:(m.node hd.node).data.length<=140737488355328){k6:List Value->World->Prop}(hk:∀W',OpX w W' B p m F0 F s v hb {hd with pos:=((m.node hd.node).data.length:Nat)}->k6 [] W'):zeE (pt p 0) W (pt hb 0) k6:=by unfold zeE;obtain⟨vn,va,vd,q,ds,hl',c,hbb,ρ,h⟩:=o.h;have bm:=h.bm;have hH:=o.H;have lH:=zaj hH;obtain⟨g,cur,na,hcl,ht⟩:=h.node hn;have ix:=na.ix;have bg:=na.bg;have c2:=na.c2;obtain⟨dat,_⟩:=h.data hn;obtain⟨ad,cd',ed⟩:=zay dat;rw[ed]at c2;have oD:=o.below (show Below W.heap.size W W.drew by repeat (first|exact Below.refl _ _|assumption|refine zag ?_ (by first|omega|(simp only[go_sem]<;>omega)) _|refine Below.alloc ?_ (by first|omega|(simp only[go_sem]<;>omega)) _|refine Below.drew ?_));simp(disch:=first|omega|(simp(disch:=first|omega|fail)only[go_sem,bm,hH,ix,bg,c2]<;>omega)|fail)only[go_sem,bm,hH,ix,bg,c2];exact hk _ (oD.setH (hd':={hd with pos:=((m.node hd.node).data.length:Nat)}))
theorem zm5(o:OpX w W B p m F0 F s v hb hd)(hv:v.oneCell'=true)(hn:hd.node<m.nodes.length){k1:List Value->World->Prop}(hk:∀W',OpX w W' B p (if SM.has s.flag 512&&SM.has s.flag 3 then m.setNode hd.node {m.node hd.node with data:=[],time:=0}else m) F0 F s v hb hd->k1 [] W')(t:List Value)(u:Env):zeq (pt w.heap.size 0) (pt p 0) (pt hb 0) k1 t u W:=by
 unfold zeq;have hS:=o.S;by_cases c1:andI s.flag 512=0
 ·have e1:SM.has s.flag 512=false:=by unfold SM.has;simp[c1]
  rw[e1]at hk;simp(disch:=first|omega|(simp(disch:=first|omega|fail)only[go_sem,hS]<;>omega)|fail)only[go_sem,hS];exact hk _ o
 ·have e1:SM.has s.flag 512=true:=by unfold SM.has;simp[c1]
  rw[e1]at hk;by_cases c2:andI s.flag 3=0
  ·have e2:SM.has s.flag 3=false:=by unfold SM.has;simp[c2]
   rw[e2]at hk;simp(disch:=first|omega|(simp(disch:=first|omega|fail)only[go_sem,hS]<;>omega)|fail)only[go_sem,hS];exact hk _ o
  ·have e2:SM.has s.flag 3=true:=by unfold SM.has;simp[c2]
   rw[e2]at hk;simp(disch:=first|omega|(simp(disch:=first|omega|fail)only[go_sem,hS]<;>omega)|fail)only[go_sem,hS];exact zqT o hn hk
theorem zm9(o:OpX w W B p m F0 F s v hb hd)(hv:v.oneCell'=true)(hn:hd.node<m.nodes.length)(hp:hd.pos=0)(hdl:(m.node hd.node).data.length<=140737488355328){k1:List Value->World->Prop}
  (hk:∀W',OpX w W' B p (if SM.has s.flag 512&&SM.has s.flag 3 then m.setNode hd.node {m.node hd.node with data:=[],time:=0}else m) F0 F s v hb {hd with ro:=decide (s.flag=0),pos:=if SM.has s.flag 1024 then((m.node hd.node).data.length:Nat)else 0}->k1 [] W') (t:List Value) (u:Env):zez (pt w.heap.size 0) (pt hb 0) (pt p 0) k1 t u W:=by
 unfold zez;have hS:=o.S;have hH:=o.H;have lH:=zaj hH;simp(disch:=first|omega|(simp(disch:=first|omega|fail)only[go_sem,hS,hH]<;>omega)|fail)only[go_sem,hS,hH];have o1:=o.setH (hd':={hd with ro:=decide (s.flag=0)});generalize setb W hb (CB (hndC {hd with ro:=decide (s.flag=0)}) T.am)=W1 at*;have hS1:=o1.S;by_cases c1:andI s.flag 1024=0
 ·have e1:SM.has s.flag 1024=false:=by unfold SM.has;simp[c1]
  rw[e1]at hk;refine zaa (λt w'=>w'=W1) ?_ ?_
  ·rintro t e w1 rfl;refine zm5 o1 hv hn (λW' o2=>hk W' ?_) _ _;have e:({hd with ro:=decide (s.flag=0),pos:=0}:SM.Hnd)={hd with ro:=decide (s.flag=0)}:=by rw[<-hp]
   simp only[Bool.false_eq_true,if_false];rw[e];exact o2
  ·simp(disch:=first|omega|(simp(disch:=first|omega|fail)only[go_sem,hS1]<;>omega)|fail)only[go_sem,hS1]
 ·have e1:SM.has s.flag 1024=true:=by unfold SM.has;simp[c1]
  rw[e1]at hk;refine zaa (λt w'=>OpX w w' B p m F0 F s v hb {hd with ro:=decide (s.flag=0),pos:=((m.node hd.node).data.length:Nat)}) ?_ ?_
  ·rintro t e w1 o3;exact zm5 o3 hv hn (λW' o2=>hk W' o2) _ _
  ·simp(disch:=first|omega|(simp(disch:=first|omega|fail)only[go_sem,hS1]<;>omega)|fail)only[go_sem,hS1];exact zqK o1 hn hdl λW' o2=>o2
set_option maxHeartbeats 4000000 in
theorem zr4(h:MemS w B p m F)(hB:B<=w.heap.size)(hv:∃a c,v=.slice a s.data.length c)(hop:0<=s.op/\s.op<=2)(hn:s.name.length<=400)(hr:(m.find [47]).isSome=true)(mb:MB m)(hd:∀n∈m.nodes,n.data.length<=1099511627776)(i:Int)(hk:zcx w B p F (m.openS i s) K):Cl P Fn.cZ #[pt p 0,.int .i64 i,AG (zaC s v)] w K:=by
 apply zmp;unfold ziY;obtain⟨W,eW,BW,zW,bS,bA⟩:=zjT w s v;rw[zcJ,M.ab,eW,show(w.alloc (CB (zaC s v) T.ae)).heap.size=w.heap.size+1 by simp only[go_sem]];obtain⟨av,cv,ev⟩:=hv;have ov:v.oneCell'=true:=by rw[ev];rfl
 have hnl:=zbH s.name;simp(disch:=first|omega|(simp(disch:=first|omega|fail)only[go_sem,bS]<;>omega)|fail)only[go_sem,bS];refine zb8 hn λw1 b1=>?_;have lf:∀b,F.use b->b<w.heap.size:=h.lt;have z1:=b1.size;have h1:=(h.old BW).old b1
 try rw[C.aj]
 refine zcC h1 (by have:=mb.nn;omega) mb.la ?_;have n1:=mb.nn;have n2:=mb.dn;generalize hnm:norm s.name=nm at*;simp(disch:=first|omega|(simp(disch:=first|omega|fail)only[go_sem]<;>omega)|fail)only[go_sem];obtain⟨W2,e2⟩:∃W2,W2=w1.alloc (CB (hndC ⟨(m.find nm).getD 0,0,0,false,false⟩) T.am):=⟨_,rfl⟩;have b2:Below w1.heap.size w1 W2:=by rw[e2];repeat (first|exact Below.refl _ _|assumption|refine zag ?_ (by first|omega|(simp only[go_sem]<;>omega)) _|refine Below.alloc ?_ (by first|omega|(simp only[go_sem]<;>omega)) _|refine Below.drew ?_)
 have B2:Below w.heap.size w W2:=(BW.trans (b1.mono (by omega))).trans (b2.mono (by omega));have o:OpX w W2 B p m F F s v w1.heap.size ⟨(m.find nm).getD 0,0,0,false,false⟩:=by
  refine⟨h1.old b2,Tr.of_below B2 F,?_,?_,by rw[e2];exact zaf _ _ _ rfl,by omega,λe=>?_,λe=>?_,λe=>?_⟩
  ·exact(zax b2 (by omega)).trans ((zax b1 (by omega)).trans bS)
  ·exact(zax b2 (by omega)).trans ((zax b1 (by omega)).trans bA)
  ·have:=lf _ e;omega
  ·have:=lf _ e;omega
  ·have:=lf _ e;omega
 have e2':W2=w1.alloc (CB [.int .i64 ((m.find nm).getD 0:Nat),.int .i64 0,.int .i64 0,.bool false,.bool false] T.am):=e2;rw[<-e2'];clear e2 e2';have hHB:B<=w1.heap.size:=by omega
 generalize w1.heap.size=hbk at*;have hS:=o.S;refine zaa (λt w'=>∃m' F' hd',OpX w w' B p m' F F' s v hbk hd'/\m.openS i s=(m'.setH i hd',SM.Ans.z)) ?_ ?_
 ·rintro t e w3 ⟨m',F',hd',o3,eq3⟩;rw[eq3]at hk;exact zqD o3 hHB hk _ _
 by_cases c0:s.op=0
 ·simp(disch:=first|omega|(simp(disch:=first|omega|fail)only[go_sem,hS]<;>omega)|fail)only[go_sem,hS];refine zqQ o hr mb (by omega) λW' F' o3=>⟨_,_,_,o3,?_⟩;unfold SM.Mem.openS;rw[if_pos c0,hnm]
 ·simp(disch:=first|omega|(simp(disch:=first|omega|fail)only[go_sem,hS]<;>omega)|fail)only[go_sem,hS];unfold zgj;by_cases c1:s.op=1
  ·simp(disch:=first|omega|(simp(disch:=first|omega|fail)only[go_sem]<;>omega)|fail)only[go_sem];refine zqM o (λhe=>?_) λW' o3 he=>⟨_,_,_,o3,?_⟩
   ·have e:m.openS i s=(m,SM.Ans.err 1):=by
     unfold SM.Mem.openS;rw[if_neg c0,if_pos c1,hnm];cases hf:m.find nm with
     |none=>rfl
     |some x=>rw[hf]at he;cases he
    rw[<-e];exact hk
   ·unfold SM.Mem.openS;rw[if_neg c0,if_pos c1,hnm];cases hf:m.find nm with
    |none=>rw[hf]at he;cases he
    |some x=>rfl
  ·simp(disch:=first|omega|(simp(disch:=first|omega|fail)only[go_sem]<;>omega)|fail)only[go_sem];have c2:s.op=2:=by omega
   have eo:m.openS i s=(if(m.find nm).isSome&&SM.has s.flag 128 then(m,SM.Ans.err 2)
     else if(m.find nm).isNone&& !SM.has s.flag 64 then(m,SM.Ans.err 1)
     else
      let m1:=if(m.find nm).isNone then(m.parents nm 0).add nm ⟨false,andI s.perm SM.zal,[],0,[]⟩else m
      let x:=match m.find nm with|some x=>x|none=>(m.parents nm 0).nodes.length
      let at_:Int:=if SM.has s.flag 1024 then(m1.node x).data.length else 0
      let m2:=if SM.has s.flag 512&&SM.has s.flag 3 then m1.setNode x {m1.node x with data:=[],time:=0}else m1
      (m2.setH i ⟨x,at_,0,false,decide (s.flag=0)⟩,SM.Ans.z)):=by
    unfold SM.Mem.openS;rw[if_neg c0,if_neg c1,hnm];rfl
   rw[eo]at hk⊢;clear eo;unfold zgy;have hA:=o.A;have lA:=zaj hA;cases hf:m.find nm with
   |some x=>
    rw[hf]at hk o;simp only[Option.isSome_some,Option.isNone_some,Bool.true_and,Bool.false_and,Option.getD_some,Bool.false_eq_true,if_false]at hk o⊢;have hx:x<m.nodes.length:=find_lt mb.la mb.lt hf;by_cases cx:andI s.flag 128=0
    ·have e1:SM.has s.flag 128=false:=by unfold SM.has;simp[cx]
     rw[e1]at hk⊢;simp only[Bool.false_eq_true,if_false]at hk⊢;refine zaa (λt w'=>w'=W2) ?_ ?_
     ·rintro t e w3 rfl;unfold zd0;refine zaa (λt w'=>w'=w3) ?_ ?_
      ·rintro t e w4 rfl;unfold zdQ;refine zaa (λt w'=>w'=w4) ?_ ?_
       ·rintro t e w5 rfl;refine zm9 o ov hx rfl (by have:=hd _ (List.getElem_mem hx);rw[<-zdA hx]at this;show(m.node x).data.length<=_;omega) (λW' o3=>⟨_,_,_,o3,rfl⟩) _ _
       ·simp(disch:=first|omega|(simp(disch:=first|omega|fail)only[go_sem]<;>omega)|fail)only[go_sem]
      ·simp(disch:=first|omega|(simp(disch:=first|omega|fail)only[go_sem]<;>omega)|fail)only[go_sem]
     ·simp(disch:=first|omega|(simp(disch:=first|omega|fail)only[go_sem,hS]<;>omega)|fail)only[go_sem,hS]
    ·have e1:SM.has s.flag 128=true:=by unfold SM.has;simp[cx]
     rw[e1]at hk;simp only[if_true]at hk;refine zaa (λ_ _=>False) (λ_ _ _ h=>h.elim) ?_;have fin:=o.err hk;simp(disch:=first|omega|(simp(disch:=first|omega|fail)only[go_sem,hS,hA]<;>omega)|fail)only[go_sem,hS,hA]at fin⊢;exact fin
   |none=>
    rw[hf]at hk o;simp only[Option.isSome_none,Option.isNone_none,Bool.true_and,Bool.false_and,Option.getD_none,Bool.false_eq_true,if_false]at hk o⊢;refine zaa (λt w'=>w'=W2) ?_ (by simp(disch:=first|omega|(simp(disch:=first|omega|fail)only[go_sem]<;>omega)|fail)only[go_sem]);rintro t e w3 rfl;unfold zd0;by_cases cx:andI s.flag 64=0
    ·have e1:SM.has s.flag 64=false:=by unfold SM.has;simp[cx]
     rw[e1]at hk;simp only[Bool.not_false,if_true]at hk;refine zaa (λ_ _=>False) (λ_ _ _ h=>h.elim) ?_;have fin:=o.err hk;simp(disch:=first|omega|(simp(disch:=first|omega|fail)only[go_sem,hS,hA]<;>omega)|fail)only[go_sem,hS,hA]at fin⊢;exact fin
    ·have e1:SM.has s.flag 64=true:=by unfold SM.has;simp[cx]
     rw[e1]at hk⊢;simp only[Bool.not_true,Bool.false_eq_true,if_false,if_true]at hk⊢;refine zaa (λt w'=>w'=w3) ?_ ?_
     ·rintro t e w4 rfl;unfold zdQ;obtain⟨q1,q2,q3⟩:=SM.zqi (m.parents nm 0) nm ⟨false,andI s.perm SM.zal,[],0,[]⟩;have hlt:(m.parents nm 0).nodes.length<((m.parents nm 0).add nm ⟨false,andI s.perm SM.zal,[],0,[]⟩).nodes.length:=by omega
      have hnew:((m.parents nm 0).add nm ⟨false,andI s.perm SM.zal,[],0,[]⟩).node (m.parents nm 0).nodes.length=⟨false,andI s.perm SM.zal,[],0,nm⟩:=by rw[zdA hlt];have:((m.parents nm 0).add nm ⟨false,andI s.perm SM.zal,[],0,[]⟩).nodes=(m.parents nm 0).nodes++[⟨false,andI s.perm SM.zal,[],0,nm⟩]:=(SM.zqk _ _ _).2.1;simp only[this];simp
      refine zaa (λt w'=>∃F',OpX w w' B p ((m.parents nm 0).add nm ⟨false,andI s.perm SM.zal,[],0,[]⟩) F F' s v hbk ⟨(m.parents nm 0).nodes.length,0,0,false,false⟩) ?_ ?_
      ·rintro t e w5 ⟨F5,o5⟩;refine zm9 o5 ov hlt rfl (by show(SM.Mem.node _ (m.parents nm 0).nodes.length).data.length<=_;rw[hnew];exact Nat.zero_le _) (λW' o3=>⟨_,_,_,o3,rfl⟩) _ _
      ·simp(disch:=first|omega|(simp(disch:=first|omega|fail)only[go_sem]<;>omega)|fail)only[go_sem];exact zqB o ov hr mb (by omega) λW' F' o3=>⟨_,o3⟩
     ·simp(disch:=first|omega|(simp(disch:=first|omega|fail)only[go_sem,hS]<;>omega)|fail)only[go_sem,hS]
end
section
variable{w W W':World}{K:Value->World->Prop}{B p:Nat}{m m':SM.Mem}{F F':Fp}{s:SM.Stp}{v:Value}
theorem zrL{r:SM.Mem×SM.Ans}(h:MemS w B p m F)(zW:W.heap.size=w.heap.size+2)(BW:Below w.heap.size w W)(bA:bk W (w.heap.size+1)=some (CB ansZ T.ab))(hk:zcx w B p F r K):
  zcx W B p F r λv w7=>st P (zai T.ab (pt (w.heap.size+1) 0) v) w7 λ_ w8=>rsl P T.ab (pt (w.heap.size+1) 0) w8 λr=>K (tup [r]) w8:=by
 intro w' F' c h' t' a';have nu:¬F.use (w.heap.size+1):=λe=>by have:=h.lt _ e;omega
 have b4:bk w' (w.heap.size+1)=some (CB ansZ T.ab):=by rw[t'.kp.block _ (by omega) λe=>nu (h.sub _ e)];exact bA
 have n4:¬F'.use (w.heap.size+1):=λe=>nu ((t'.st _ (by omega)).2 e);have nc0:=a';obtain⟨x,y,z,rfl,hx,hy,hz,ho⟩:=a';obtain⟨p1,c1,rfl⟩:=zay hx;obtain⟨p2,c2,rfl⟩:=zaX hy;obtain⟨p3,c3,rfl⟩:=zaX hz;have l4:=zaj b4;simp(disch:=first|omega|(simp(disch:=first|omega|fail)only[go_sem,b4]<;>omega)|fail)only[go_sem,b4];obtain⟨e1,e2,e3⟩:=zbG h' ((Tr.of_below BW F).trans t') (A:=w.heap.size+1) (by omega) n4 (nc0.less (by omega)) (CB (zbq r.2 (.slice p1 r.2.data.length c1) (.slice p2 r.2.names.length c2) (.slice p3 r.2.infos.length c3)) T.ab);exact hk _ _ _ e1 e2 e3
theorem ztb(h:MemS w B p m F)(hB:B<=w.heap.size)(hv:∃a c,v=.slice a s.data.length c)(hop:0<=s.op/\s.op<=2)(hn:s.name.length<=400)(hr:(m.find [47]).isSome=true)(mb:MB m)(hd:∀n∈m.nodes,n.data.length<=1099511627776)(i:Int)(hk:zcx w B p F (m.doS i s) K):Cl P Fn.bX #[pt p 0,.int .i64 i,AG (zaC s v)] w K:=by
 apply zhJ;unfold zfv;obtain⟨W,eW,BW,zW,bS,bA⟩:=zjT w s v;rw[zcJ,M.ab,eW,show(w.alloc (CB (zaC s v) T.ae)).heap.size=w.heap.size+1 by simp only[go_sem]];unfold SM.Mem.doS at hk;rw[if_pos hop]at hk;obtain⟨av,cv,ev⟩:=hv;have ov:v.oneCell'=true:=by rw[ev];rfl
 refine zaa (λ_ _=>False) (λ_ _ _ h=>h.elim) ?_;simp(disch:=first|omega|(simp(disch:=first|omega|fail)only[go_sem,bS,ov]<;>omega)|fail)only[go_sem,bS,ov];exact zr4 (h.old BW) (by omega) ⟨av,cv,ev⟩ hop hn hr mb hd i (zrL h zW BW bA hk)
end
structure NmX(w W:World)(B p:Nat)(m:SM.Mem)(F0 F:Fp)(s:SM.Stp)(v:Value):Prop where
 h:MemS W B p m F
 t:Tr w W F0 F
 S:bk W w.heap.size=some (CB (zaC s v) T.ae)
 A:bk W (w.heap.size+1)=some (CB ansZ T.ab)
 nS:¬F.use w.heap.size
 nA:¬F.use (w.heap.size+1)
section
variable{w W W':World}{K:Value->World->Prop}{B p:Nat}{m m':SM.Mem}{F0 F F':Fp}{s:SM.Stp}{v:Value}
theorem NmX.step(o:NmX w W B p m F0 F s v)(h':MemS W' B p m' F')(t':Tr W W' F F'):NmX w W' B p m' F0 F' s v:=by have so:∀b,F.own b->F.use b:=o.h.sub;have g:∀b,b<W.heap.size->¬F.use b->bk W' b=bk W b/\¬F'.use b:=λb hb hn=>⟨t'.kp.block b hb λe=>hn (so b e),λe=>hn ((t'.st b hb).2 e)⟩;obtain⟨s1,s2⟩:=g _ (zaj o.S) o.nS;obtain⟨a1,a2⟩:=g _ (zaj o.A) o.nA;exact⟨h',o.t.trans t',s1.trans o.S,a1.trans o.A,s2,a2⟩
theorem NmX.below(o:NmX w W B p m F0 F s v)(b:Below W.heap.size W W'):NmX w W' B p m F0 F s v:=o.step (o.h.old b) (Tr.of_below b F)
theorem NmX.err(o:NmX w W B p m F0 F s v){e:Int}(hk:zcx w B p F0 (m,SM.Ans.err e) K):
  pu P (zaw T.ab #[(0,.int .i64 e)]) λt=>st P (zai T.ab (pt (w.heap.size+1) 0) t) W λ_ w17=>rsl P T.ab (pt (w.heap.size+1) 0) w17 λr=>K (tup [r]) w17:=by
 have hA:=o.A;have lA:=zaj hA;simp(disch:=first|omega|(simp(disch:=first|omega|fail)only[go_sem,hA]<;>omega)|fail)only[go_sem,hA];obtain⟨e1,e2,e3⟩:=zbG o.h o.t (A:=w.heap.size+1) (by omega) o.nA (AnsN.plain _ _ _ rfl rfl rfl:AnsN W (w.heap.size+1+1) F.use (SM.Ans.err e) _) (CB (zbq (SM.Ans.err e) (.slice none 0 0) (.slice none 0 0) (.slice none 0 0)) T.ab);exact hk _ _ _ e1 e2 e3
theorem NmX.ok(o:NmX w W B p m F0 F s v)(hk:zcx w B p F0 (m,SM.Ans.z) K):
  pu P (zaw T.ab #[]) λt=>st P (zai T.ab (pt (w.heap.size+1) 0) t) W λ_ w17=>rsl P T.ab (pt (w.heap.size+1) 0) w17 λr=>K (tup [r]) w17:=by
 have hA:=o.A;have lA:=zaj hA;simp(disch:=first|omega|(simp(disch:=first|omega|fail)only[go_sem,hA]<;>omega)|fail)only[go_sem,hA];obtain⟨e1,e2,e3⟩:=zbG o.h o.t (A:=w.heap.size+1) (by omega) o.nA (AnsN.plain _ _ _ rfl rfl rfl:AnsN W (w.heap.size+1+1) F.use SM.Ans.z _) (CB (zbq SM.Ans.z (.slice none 0 0) (.slice none 0 0) (.slice none 0 0)) T.ab);exact hk _ _ _ e1 e2 e3
theorem ztA(h:MemS w B p m F)(zW:W.heap.size=w.heap.size+2)(BW:Below w.heap.size w W)(bS:bk W w.heap.size=some (CB (zaC s v) T.ae))(bA:bk W (w.heap.size+1)=some (CB ansZ T.ab)):NmX w W B p m F F s v:=⟨h.old BW,Tr.of_below BW F,bS,bA,λe=>by have:=h.lt _ e;omega,λe=>by have:=h.lt _ e;omega⟩
theorem zsd(o:NmX w W B p m F0 F s v)(hv:v.oneCell'=true){l:Str}(hr:(m.find [47]).isSome=true)(mb:MB m)(hl:l.length<=900){k7:List Value->World->Prop}
  (hk:∀W' F',NmX w W' B p ((m.parents l (andI s.perm SM.zal)).add l ⟨true,orI 2147483648 (andI s.perm SM.zal),[],0,[]⟩) F0 F' s v->k7 [] W'):zdh (pt w.heap.size 0) W (pt p 0) (S l) k7:=by
 unfold zdh;have hS:=o.S;simp(disch:=first|omega|(simp(disch:=first|omega|fail)only[go_sem,hS]<;>omega)|fail)only[go_sem,hS];refine zgz (perm:=andI s.perm SM.zal) o.h hr mb.la hl mb.nn mb.dn λw1 F1 h1 t1=>?_;have o1:=o.step h1 t1;obtain⟨q1,q2,q3⟩:=SM.zcN m (andI s.perm SM.zal) (l.length+2) l;have n1:=mb.nn;have n2:=mb.dn;have hS1:=o1.S;simp(disch:=first|omega|(simp(disch:=first|omega|fail)only[go_sem,hS1]<;>omega)|fail)only[go_sem,hS1];refine zlA (n:=⟨true,orI 2147483648 (andI s.perm SM.zal),[],0,[]⟩) (dv:=.slice none 0 0) h1 (by show(m.parentsF l _ (l.length+2)).names.length<=_;omega) (by show(m.parentsF l _ (l.length+2)).nodes.length<=_;omega) (q3 mb.la) (zb0 _) (λb e=>by cases e) λw2 F2 h2 t2=>?_;exact hk _ _ (o1.step h2 t2)
theorem zr1(o:NmX w W B p m F0 F s v)(hv:v.oneCell'=true){l:Str}(hr:(m.find [47]).isSome=true)(mb:MB m)(hl:l.length<=900)(hop:s.op=3\/s.op=4)
  (hk:zcx w B p F0 (if(m.find l).isSome&&decide (s.op=3)then(m,SM.Ans.err 2)
   else if(m.find l).isNone then((m.parents l (andI s.perm SM.zal)).add l ⟨true,orI 2147483648 (andI s.perm SM.zal),[],0,[]⟩,SM.Ans.z)
   else(m,SM.Ans.z)) K):zcc (pt (w.heap.size+1) 0) K (.bool (m.find l).isSome) (pt w.heap.size 0) (pt p 0) (S l) W:=by
 unfold zcc;have hS:=o.S;have hA:=o.A;have lA:=zaj hA;cases hf:m.find l with
 |some x=>
  rw[hf]at hk;simp only[Option.isSome_some,Option.isNone_some,Bool.true_and,Bool.false_eq_true,if_false]at hk;by_cases c3:s.op=3
  ·rw[if_pos (by simp[c3])]at hk;refine zaa (λ_ _=>False) (λ_ _ _ h=>h.elim) ?_;have fin:=o.err hk;simp(disch:=first|omega|(simp(disch:=first|omega|fail)only[go_sem,hS,hA]<;>omega)|fail)only[go_sem,hS,hA]at fin⊢;exact fin
  ·rw[if_neg (by simp[c3])]at hk;refine zaa (λt w'=>w'=W) ?_ (by simp(disch:=first|omega|(simp(disch:=first|omega|fail)only[go_sem,hS]<;>omega)|fail)only[go_sem,hS]);rintro t e w1 rfl;unfold zdf;refine zaa (λt w'=>w'=w1) ?_ (by simp(disch:=first|omega|(simp(disch:=first|omega|fail)only[go_sem]<;>omega)|fail)only[go_sem]);rintro t e w2 rfl;unfold zaH;exact o.ok hk
 |none=>
  rw[hf]at hk;simp only[Option.isSome_none,Option.isNone_none,Bool.false_and,Bool.false_eq_true,if_false,if_true]at hk;simp only[Option.isSome_none];refine zaa (λt w'=>w'=W) ?_ (by simp(disch:=first|omega|(simp(disch:=first|omega|fail)only[go_sem]<;>omega)|fail)only[go_sem]);rintro t e w1 rfl;unfold zdf;refine zaa (λt w'=>∃F',NmX w w' B p ((m.parents l (andI s.perm SM.zal)).add l ⟨true,orI 2147483648 (andI s.perm SM.zal),[],0,[]⟩) F0 F' s v) ?_ ?_
  ·rintro t e w2 ⟨F2,o2⟩;unfold zaH;exact o2.ok hk
  ·simp(disch:=first|omega|(simp(disch:=first|omega|fail)only[go_sem]<;>omega)|fail)only[go_sem];exact zsd o hv hr mb hl λW' F' o'=>⟨F',o'⟩
theorem zsr(m:SM.Mem)(l:Str):(m.drop l).names.length<=m.names.length/\(m.drop l).nodes=m.nodes/\(m.ats.length=m.names.length->(m.drop l).ats.length=(m.drop l).names.length):=by
 unfold SM.Mem.drop;simp only
 split
 ·refine⟨?_,rfl,λh=>?_⟩
  ·simp;omega
  ·simp;omega
 ·exact⟨Nat.le_refl _,rfl,id⟩
theorem zk1:∀(ns:List Str)(m:SM.Mem),(m.dropAll ns).names.length<=m.names.length/\(m.dropAll ns).nodes=m.nodes/\(m.ats.length=m.names.length->(m.dropAll ns).ats.length=(m.dropAll ns).names.length)
 |[],m=>⟨Nat.le_refl _,rfl,id⟩
 |n::ns,m=>by obtain⟨h1,h2,h3⟩:=zsr m n;obtain⟨k1,k2,k3⟩:=zk1 ns (m.drop n);exact⟨Nat.le_trans k1 h1,k2.trans h2,λh=>k3 (h3 h)⟩
theorem zoB{w1:World}{L:Value->World->Prop}{x:Value}{l:List Str}{B1:Nat}{cs:Array Bool}{ty:TypeId}(hv:w1.ownsRow B1 T.string 1 x l.length (l.map S))(hl:l.length<=1000000000)
  (h:∀v' w',w'.ownsRow w1.heap.size T.string 1 v' l.length (l.map S)->Below w1.heap.size w1 w'->L v' w'):
  st P (zac .append #[T.aj,T.aj] ty cs #[sl w1.heap.size 0 0 0,x]) (w1.alloc (CB [] T.string)) L:=by
 have b1:Below w1.heap.size w1 (w1.alloc (CB [] T.string)):=by repeat (first|exact Below.refl _ _|assumption|refine zag ?_ (by first|omega|(simp only[go_sem]<;>omega)) _|refine Below.alloc ?_ (by first|omega|(simp only[go_sem]<;>omega)) _|refine Below.drew ?_)
 have o1:(w1.alloc (CB [] T.string)).ownsRow w1.heap.size T.string 1 (sl w1.heap.size 0 0 0) 0 []:=⟨rfl,.inr ⟨w1.heap.size,0,#[],rfl,Nat.le_refl _,heap_alloc_new w1 _,Nat.le_refl _,by simp[maxLen],rfl,rfl⟩⟩;refine zbK (z:=S []) (size:=1) (bytes:=16) (m:=l.length) (news:=l.map S) U.ae (by kernel_rfl) rfl (by omega) o1 (zgO (zbf hv b1 (Nat.le_refl _))) (by simp) (λu hu=>?_) (by simp only[maxLen];omega) (by omega) (by simp only[go_sem];omega) λv' w' o g a=>?_
 ·obtain⟨y,_,rfl⟩:=List.mem_map.1 hu;rfl
 ·exact h _ _ (by simpa using o) (b1.trans (zhz o1 g (by simp only[go_sem];omega)))
set_option maxHeartbeats 2000000 in
theorem zsf(o:NmX w W B p m F0 F s v){l:Str}(mb:MB m)(hl:l.length<=900)(hk:zcx w B p F0 (m.dropAll (m.names.filter λn=>decide (n=l)||SM.below n l),SM.Ans.z) K):zdd (pt (w.heap.size+1) 0) K W (pt p 0) (S l):=by
 unfold zdd;obtain⟨vn,va,vd,q,ds,hl',c,hbb,ρ,h⟩:=o.h;have bm:=h.bm;have bmA:bk (W.alloc (CB [] T.string)) p=_:=(zax (show Below W.heap.size W (W.alloc (CB [] T.string)) by repeat (first|exact Below.refl _ _|assumption|refine zag ?_ (by first|omega|(simp only[go_sem]<;>omega)) _|refine Below.alloc ?_ (by first|omega|(simp only[go_sem]<;>omega)) _|refine Below.drew ?_)) (zaj bm)).trans bm;have nn:=mb.nn;refine zaa (λt w'=>∃F',NmX w w' B p (m.dropAll (m.names.filter λn=>decide (n=l)||SM.below n l)) F0 F' s v) ?_ ?_
 ·rintro t e w1 ⟨F1,o1⟩;unfold zaH;exact o1.ok hk
 rw[zbJ (n:=1) _ _ U.ae (by kernel_rfl)];simp(disch:=first|omega|(simp(disch:=first|omega|fail)only[go_sem,bmA]<;>omega)|fail)only[go_sem,bmA];refine zoB h.on (by omega) λv' w1 o1 b1=>?_;obtain⟨a,cap,ev⟩:=zan o1;have z1:=b1.size;rw[ev,V.ae,<-ev];refine zaA (λt w'=>∃F',∃i:Nat,t=[.int .i64 i]/\i<=m.names.length/\NmX w w' B p (m.dropAll ((m.names.take i).filter λn=>decide (n=l)||SM.below n l)) F0 F' s v/\w'.ownsRow W.heap.size T.string 1 v' m.names.length (m.names.map S)/\∀k,v'.ownBlock=some k->¬F'.use k) (λt _=>m.names.length - (RowKit.intOf (gs t 0)).toNat) ⟨F,0,rfl,Nat.zero_le _,o.below b1,o1,λk hk' e=>by have:=(zaW o1 k hk').1;have:=o.h.lt k e;omega⟩ ?_;rintro t e w2 ⟨F2,i,rfl,hi,o2,ov2,hn2⟩;by_cases g:(i:Int)<m.names.length
 ·have hix:i<m.names.length:=by omega
  simp(disch:=first|omega|(simp(disch:=first|omega|fail)only[go_sem]<;>omega)|fail)only[go_sem];refine zaa (λt w'=>t=[]/\w'=w2) ?_ ⟨rfl,rfl⟩;rintro t e w3 ⟨rfl,rfl⟩;unfold zfR;obtain⟨g1,g2,g3,g4,g5⟩:=zjg ov2 rfl hix;have ix:∀M:Value->Prop,pu P (zaO T.aj v' (.int .i64 i)) M=M (pt g1 i):=λM=>g4 .i64 M;have ld:=g5 w3 rfl;have hxl:=mb.nl m.names[i] (List.getElem_mem hix);have et:(m.names.take (i+1)).filter (λn=>decide (n=l)||SM.below n l)=(m.names.take i).filter (λn=>decide (n=l)||SM.below n l)++(if(decide (m.names[i]=l)||SM.below m.names[i] l)=true then[m.names[i]]else[]):=by rw[List.take_succ_eq_append_getElem hix,List.filter_append];congr 1;simp only[List.filter_cons,List.filter_nil]
  have ed:m.dropAll ((m.names.take (i+1)).filter (λn=>decide (n=l)||SM.below n l))=(if(decide (m.names[i]=l)||SM.below m.names[i] l)=true then(m.dropAll ((m.names.take i).filter λn=>decide (n=l)||SM.below n l)).drop m.names[i]else m.dropAll ((m.names.take i).filter λn=>decide (n=l)||SM.below n l)):=by rw[et];unfold SM.Mem.dropAll;rw[List.foldl_append];split<;>rfl
  obtain⟨d1,d2,d3⟩:=zk1 ((m.names.take i).filter λn=>decide (n=l)||SM.below n l) m;generalize m.dropAll ((m.names.take i).filter λn=>decide (n=l)||SM.below n l)=m2 at*;generalize m.names[i]=x at*;refine zaa (λt w'=>∃F',NmX w w' B p (m.dropAll ((m.names.take (i+1)).filter λn=>decide (n=l)||SM.below n l)) F0 F' s v/\w'.ownsRow W.heap.size T.string 1 v' m.names.length (m.names.map S)/\∀k,v'.ownBlock=some k->¬F'.use k) ?_ ?_
  ·rintro t e w4 ⟨F4,o4,ov4,hn4⟩;unfold zas;simp(disch:=first|omega|(simp(disch:=first|omega|fail)only[go_sem]<;>omega)|fail)only[go_sem];refine⟨⟨F4,i+1,rfl,by omega,o4,ov4,hn4⟩,?_⟩;simp only[RowKit.intOf,gs0];omega
  rw[ed];have go:st P (zah Fn.aZ #[pt p 0,S x]) w3 (λ_ w'=>∃F',NmX w w' B p (m2.drop x) F0 F' s v/\w'.ownsRow W.heap.size T.string 1 v' m.names.length (m.names.map S)/\∀k,v'.ownBlock=some k->¬F'.use k):=by rw[C.aJ];refine zl7 o2.h (by omega) (d3 mb.la) λw5 F5 h5 t5=>?_;refine⟨F5,o2.step h5 t5,zbI ov2 t5.kp λk hk' e=>hn2 k hk' (o2.h.sub k e),λk hk' e=>hn2 k hk' ((t5.st k (zaW ov2 k hk').2).2 e)⟩
  by_cases cx:x=l
  ·rw[if_pos (by simp[cx])];simp(disch:=first|omega|(simp(disch:=first|omega|fail)only[go_sem,ix,ld]<;>omega)|fail)only[go_sem,ix,ld];rw[C.aJ]at go;exact go
  ·cases cb:SM.below x l with
   |true=>rw[if_pos (by simp)];simp(disch:=first|omega|(simp(disch:=first|omega|fail)only[go_sem,ix,ld]<;>omega)|fail)only[go_sem,ix,ld];refine zg9 (by omega) (by omega) ?_;rw[cb];simp(disch:=first|omega|(simp(disch:=first|omega|fail)only[go_sem]<;>omega)|fail)only[go_sem];rw[C.aJ]at go;exact go
   |false=>rw[if_neg (by simp[cx])];simp(disch:=first|omega|(simp(disch:=first|omega|fail)only[go_sem,ix,ld]<;>omega)|fail)only[go_sem,ix,ld];refine zg9 (by omega) (by omega) ?_;rw[cb];simp(disch:=first|omega|(simp(disch:=first|omega|fail)only[go_sem]<;>omega)|fail)only[go_sem];exact⟨F2,o2,ov2,hn2⟩
 ·have ei:i=m.names.length:=by omega
  subst ei;rw[List.take_length]at o2;simp(disch:=first|omega|(simp(disch:=first|omega|fail)only[go_sem]<;>omega)|fail)only[go_sem];exact zaa (λ_ _=>False) (λ_ _ _ h=>h.elim) ⟨F2,o2⟩
theorem zte(o:NmX w W B p m F0 F s v)(mb:MB m){x:Nat}(hx:x<m.nodes.length)(hk:zcx w B p F0 (m,{SM.Ans.z with infos:=[m.info x]}) K):zd6 (pt p 0) (.int .i64 x) W (pt (w.heap.size+1) 0) K:=by
 unfold zd6;rw[C.bt];refine zl5 o.h hx (by have:=mb.node hx;omega) λw1 b1=>?_;rw[zbg (size:=5) (z:=AG (zbs ⟨[],0,0,false,0⟩)) _ _ U.ap (by kernel_rfl) (by omega) (by omega) (l:=zbs (m.info x)) rfl];obtain⟨w2,e2⟩:∃w2,w2=w1.alloc (CB (zbs (m.info x)) T.ay):=⟨_,rfl⟩;have b2:Below w1.heap.size w1 w2:=by rw[e2];repeat (first|exact Below.refl _ _|assumption|refine zag ?_ (by first|omega|(simp only[go_sem]<;>omega)) _|refine Below.alloc ?_ (by first|omega|(simp only[go_sem]<;>omega)) _|refine Below.drew ?_)
 have z1:=b1.size;have z2:w2.heap.size=w1.heap.size+1:=by rw[e2];simp only[go_sem]
 have r2:bk w2 w1.heap.size=some (CB (zbs (m.info x)) T.ay):=by rw[e2];exact zaf _ _ _ rfl
 have B2:Below W.heap.size W w2:=b1.trans (b2.mono z1);have o2:=o.below B2;rw[<-e2];clear e2;have hA:=o2.A;have lA:=zaj hA;have lA0:=zaj o.A;simp(disch:=first|omega|(simp(disch:=first|omega|fail)only[go_sem,hA]<;>omega)|fail)only[go_sem,hA];have a3:AnsN w2 (w.heap.size+1+1) F.use {SM.Ans.z with infos:=[m.info x]} (zbq {SM.Ans.z with infos:=[m.info x]} (.slice none 0 0) (.slice none 0 0) (sl w1.heap.size 0 1 1)):=by
  refine⟨_,_,_,rfl,zb0 _,zaT _,.inl ⟨w1.heap.size,0,1,rfl,?_⟩,λb hb=>?_⟩
  ·rw[r2];rfl
  ·have e:w1.heap.size=b:=by
    rcases hb with h|h|h
    ·cases h
    ·cases h
    ·exact Option.some.inj h
   subst e;exact⟨by omega,by omega,λe=>by have:=o.h.lt _ e;omega⟩
 obtain⟨e1,e2,e3⟩:=zbG o2.h o2.t (A:=w.heap.size+1) (by omega) o2.nA a3 (CB (zbq {SM.Ans.z with infos:=[m.info x]} (.slice none 0 0) (.slice none 0 0) (sl w1.heap.size 0 1 1)) T.ab);exact hk _ _ _ e1 e2 e3
theorem zsY(o:NmX w W B p m F0 F s v)(hv:v.oneCell'=true){x:Nat}(hx:x<m.nodes.length){k4:List Value->World->Prop}(hk:∀W',NmX w W' B p (m.setNode x {m.node x with mode:=orI (zcq (m.node x).mode SM.zal) (andI s.perm SM.zal)}) F0 F s v->k4 [] W'):zdK (pt p 0) W (.int .i64 x) (pt w.heap.size 0) k4:=by
 unfold zdK;obtain⟨vn,va,vd,q,ds,hl',c,hbb,ρ,h⟩:=o.h;have bm:=h.bm;have hS:=o.S;obtain⟨g,cur,na,hcl,ht⟩:=h.node hx;have ix:=na.ix .i64;have bg:=na.bg;have lg:=zaj bg;have c1:=na.c1;have len:=na.len;simp(disch:=first|omega|(simp(disch:=first|omega|fail)only[go_sem,bm,hS,ix,bg,c1]<;>omega)|fail)only[go_sem,bm,hS,ix,bg,c1];have bD:Below W.heap.size W W.drew:=by repeat (first|exact Below.refl _ _|assumption|refine zag ?_ (by first|omega|(simp only[go_sem]<;>omega)) _|refine Below.alloc ?_ (by first|omega|(simp only[go_sem]<;>omega)) _|refine Below.drew ?_)
 have dD:=h.old bD;have na':zcP W.drew vd m x (ds[x]'(by rw[h.dl];exact hx)) g cur:=⟨na.ob,na.bg,na.len,na.ix,na.row,na.c0,na.c1,na.c2,na.c3,na.c4⟩;obtain⟨h3,n5,t3,q1,q2⟩:=dD.store (j:=1) (x:=.int .i64 (orI (zcq (m.node x).mode SM.zal) (andI s.perm SM.zal))) (n':={m.node x with mode:=orI (zcq (m.node x).mode SM.zal) (andI s.perm SM.zal)}) (d':=ds[x]'(by rw[h.dl];exact hx)) hx na' rfl hcl ht (by omega) rfl (dD.data hx);exact hk _ (o.step h3.toS ((Tr.of_below bD F).trans t3))
theorem zs8(o:NmX w W B p m F0 F s v)(hv:v.oneCell'=true){x:Nat}(hx:x<m.nodes.length){k4:List Value->World->Prop}(hk:∀W',NmX w W' B p (m.setNode x {m.node x with time:=s.off}) F0 F s v->k4 [] W'):zdy (pt p 0) W (pt w.heap.size 0) (.int .i64 x) k4:=by
 unfold zdy;obtain⟨vn,va,vd,q,ds,hl',c,hbb,ρ,h⟩:=o.h;have bm:=h.bm;have hS:=o.S;obtain⟨g,cur,na,hcl,ht⟩:=h.node hx;have ix:=na.ix .i64;have bg:=na.bg;have lg:=zaj bg;have len:=na.len;simp(disch:=first|omega|(simp(disch:=first|omega|fail)only[go_sem,bm,hS,ix,bg]<;>omega)|fail)only[go_sem,bm,hS,ix,bg];have bD:Below W.heap.size W W.drew:=by repeat (first|exact Below.refl _ _|assumption|refine zag ?_ (by first|omega|(simp only[go_sem]<;>omega)) _|refine Below.alloc ?_ (by first|omega|(simp only[go_sem]<;>omega)) _|refine Below.drew ?_)
 have dD:=h.old bD;have na':zcP W.drew vd m x (ds[x]'(by rw[h.dl];exact hx)) g cur:=⟨na.ob,na.bg,na.len,na.ix,na.row,na.c0,na.c1,na.c2,na.c3,na.c4⟩;obtain⟨h3,n5,t3,q1,q2⟩:=dD.store (j:=3) (x:=.int .i64 s.off) (n':={m.node x with time:=s.off}) (d':=ds[x]'(by rw[h.dl];exact hx)) hx na' rfl hcl ht (by omega) rfl (dD.data hx);exact hk _ (o.step h3.toS ((Tr.of_below bD F).trans t3))
end
structure RnX(w W:World)(B p:Nat)(m:SM.Mem)(F0 F:Fp):Prop where
 h:MemS W B p m F
 t:Tr w W F0 F
 A:bk W w.heap.size=some (CB ansZ T.ab)
 nA:¬F.use w.heap.size
section
variable{w W W':World}{K:Value->World->Prop}{B p:Nat}{m m':SM.Mem}{F0 F F':Fp}{s:SM.Stp}{v:Value}
theorem RnX.step(o:RnX w W B p m F0 F)(h':MemS W' B p m' F')(t':Tr W W' F F'):RnX w W' B p m' F0 F':=by have hb:=zaj o.A;exact⟨h',o.t.trans t',(t'.kp.block _ hb λe=>o.nA (o.h.sub _ e)).trans o.A,λe=>o.nA ((t'.st _ hb).2 e)⟩
theorem RnX.below(o:RnX w W B p m F0 F)(b:Below W.heap.size W W'):RnX w W' B p m F0 F:=o.step (o.h.old b) (Tr.of_below b F)
theorem RnX.err(o:RnX w W B p m F0 F){e:Int}(hk:zcx w B p F0 (m,SM.Ans.err e) K):
  pu P (zaw T.ab #[(0,.int .i64 e)]) λt=>st P (zai T.ab (pt w.heap.size 0) t) W λ_ w17=>rsl P T.ab (pt w.heap.size 0) w17 λr=>K (tup [r]) w17:=by
 have hA:=o.A;have lA:=zaj hA;simp(disch:=first|omega|(simp(disch:=first|omega|fail)only[go_sem,hA]<;>omega)|fail)only[go_sem,hA];obtain⟨e1,e2,e3⟩:=zbG o.h o.t (A:=w.heap.size) (by omega) o.nA (AnsN.plain _ _ _ rfl rfl rfl:AnsN W (w.heap.size+1) F.use (SM.Ans.err e) _) (CB (zbq (SM.Ans.err e) (.slice none 0 0) (.slice none 0 0) (.slice none 0 0)) T.ab);exact hk _ _ _ e1 e2 e3
theorem RnX.ok(o:RnX w W B p m F0 F)(hk:zcx w B p F0 (m,SM.Ans.z) K):
  pu P (zaw T.ab #[]) λt=>st P (zai T.ab (pt w.heap.size 0) t) W λ_ w17=>rsl P T.ab (pt w.heap.size 0) w17 λr=>K (tup [r]) w17:=by
 have hA:=o.A;have lA:=zaj hA;simp(disch:=first|omega|(simp(disch:=first|omega|fail)only[go_sem,hA]<;>omega)|fail)only[go_sem,hA];obtain⟨e1,e2,e3⟩:=zbG o.h o.t (A:=w.heap.size) (by omega) o.nA (AnsN.plain _ _ _ rfl rfl rfl:AnsN W (w.heap.size+1) F.use SM.Ans.z _) (CB (zbq SM.Ans.z (.slice none 0 0) (.slice none 0 0) (.slice none 0 0)) T.ab);exact hk _ _ _ e1 e2 e3
theorem ztF(o:RnX w W B p m F0 F)(wf:SM.Wf m){x src dst:Str}(hx:x∈m.names)(hN:m.names.length<=999999998)(hl:src.length<=x.length)(hx2:x.length<=2000000000)(hd:dst.length<=2000000000){k5:List Value->World->Prop}
  (hk:∀W' F',RnX w W' B p (m.moved src dst x) F0 F'->Tr W W' F F'->k5 [] W'):zcf (pt p 0) (S x) W (S src) (S dst) k5:=by
 unfold zcf;rw[C.aj];refine zcC o.h (by omega) wf.la ?_;obtain⟨y,hy⟩:∃y,m.find x=some y:=by
  cases e:m.find x with
  |some y=>exact⟨y,rfl⟩
  |none=>exact absurd hx ((SM.zco wf x).1 e)
 have ylt:=wf.find_lt hy;have dl:=SM.znW wf x;obtain⟨d1,d2,d3⟩:=SM.zku wf x;have dn:=(SM.zcp m x).1;simp only[hy,Option.getD_some];simp(disch:=first|omega|(simp(disch:=first|omega|fail)only[go_sem]<;>omega)|fail)only[go_sem];refine zl7 o.h (by omega) wf.la λw1 F1 h1 t1=>?_;have o1:=o.step h1 t1;have sl:∀L:Value->Prop,pu P (zaE T.string (S x) (some (.int .i64 src.length)) none none) L=L (S (x.drop src.length)):=λL=>by rw[zg3 _ _ _ _ _ U.string (by omega) (by omega),Int.toNat_natCast]
 have lx:(x.drop src.length).length<=x.length:=by simp
 simp(disch:=first|omega|(simp(disch:=first|omega|fail)only[go_sem,sl]<;>omega)|fail)only[go_sem,sl];refine zp4 (x:=y) h1 (by omega) d1.la λw2 F2 h2 t2=>?_;have o2:=o1.step h2 t2;have pn:=(SM.zeV (m.drop x) (dst++x.drop src.length) y).1;have y2:y<((m.drop x).put (dst++x.drop src.length) y).nodes.length:=by rw[pn,dn];exact ylt
 have em:m.moved src dst x=((m.drop x).put (dst++x.drop src.length) y).setNode y {((m.drop x).put (dst++x.drop src.length) y).node y with name:=dst++x.drop src.length}:=by unfold SM.Mem.moved;rw[hy];rfl
 rw[em]at hk;generalize hm2:(m.drop x).put (dst++x.drop src.length) y=m2 at*;obtain⟨vn,va,vd,q,ds,hl',c,hbb,ρ,h⟩:=o2.h;have bm:=h.bm;obtain⟨g,cur,na,hcl,ht⟩:=h.node y2;have ix:=na.ix .i64;have bg:=na.bg;have lg:=zaj bg;have len:=na.len;simp(disch:=first|omega|(simp(disch:=first|omega|fail)only[go_sem,bm,sl,ix,bg]<;>omega)|fail)only[go_sem,bm,sl,ix,bg];have bD:Below w2.heap.size w2 w2.drew:=by repeat (first|exact Below.refl _ _|assumption|refine zag ?_ (by first|omega|(simp only[go_sem]<;>omega)) _|refine Below.alloc ?_ (by first|omega|(simp only[go_sem]<;>omega)) _|refine Below.drew ?_)
 have dD:=h.old bD;have na':zcP w2.drew vd m2 y (ds[y]'(by rw[h.dl];exact y2)) g cur:=⟨na.ob,na.bg,na.len,na.ix,na.row,na.c0,na.c1,na.c2,na.c3,na.c4⟩;obtain⟨h3,n5,t3,q1,q2⟩:=dD.store (j:=4) (x:=S (dst++x.drop src.length)) (n':={m2.node y with name:=dst++x.drop src.length}) (d':=ds[y]'(by rw[h.dl];exact y2)) y2 na' rfl hcl ht (by omega) rfl (dD.data y2);exact hk _ _ (o2.step h3.toS ((Tr.of_below bD F2).trans t3)) ((t1.trans t2).trans ((Tr.of_below bD F2).trans t3))
theorem zot{src dst:Str}:∀(l:List Str)(m:SM.Mem),SM.Wf m->l.Pairwise (·<·)->(∀k∈l,k∈m.names)->SM.Wf (l.foldl (λm n=>m.moved src dst n) m)/\(l.foldl (λm n=>m.moved src dst n) m).names.length<=m.names.length/\(l.foldl (λm n=>m.moved src dst n) m).nodes.length=m.nodes.length
 |[],m,h,_,_=>⟨h,Nat.le_refl _,rfl⟩
 |n::l,m,h,hp,hm=>by obtain⟨p1,p2⟩:=List.pairwise_cons.1 hp;obtain⟨a1,a2,a3,a4,a5⟩:=SM.zi7 h src dst (hm n (List.mem_cons_self ..));obtain⟨i1,i2,i3⟩:=zot l (m.moved src dst n) a1 p2 λk hk=>(a3 k).2 (.inr ⟨λe=>SM.zbb n (by have:=p1 k hk;rw[e]at this;exact this),hm k (List.mem_cons_of_mem _ hk)⟩);exact⟨i1,Nat.le_trans i2 a4,i3.trans a5⟩
theorem zm3{src dst:Str}:∀(l:List Str)(m:SM.Mem),SM.Wf m->l.Pairwise (·<·)->(∀k∈l,k∈m.names)->∀z,z∈m.names->z∉l->z∈(l.foldl (λm n=>m.moved src dst n) m).names
 |[],m,h,_,_,z,hz,_=>hz
 |n::l,m,h,hp,hm,z,hz,hn=>by obtain⟨p1,p2⟩:=List.pairwise_cons.1 hp;obtain⟨a1,a2,a3,a4,a5⟩:=SM.zi7 h src dst (hm n (List.mem_cons_self ..));refine zm3 l (m.moved src dst n) a1 p2 (λk hk=>(a3 k).2 (.inr ⟨λe=>SM.zbb n (by have:=p1 k hk;rw[e]at this;exact this),hm k (List.mem_cons_of_mem _ hk)⟩)) z ((a3 z).2 (.inr ⟨λe=>hn (by rw[e];exact List.mem_cons_self ..),hz⟩)) λh=>hn (List.mem_cons_of_mem _ h)
set_option maxHeartbeats 2000000 in
theorem zph{src dst:Str}(h:MemS w B p m F)(hr:(m.find [47]).isSome=true)(wf:SM.Wf m)(mb:MB m)(hs:src.length<=401)(hd:dst.length<=401)(hne:src=dst\/src≠[47])(hk:zcx w B p F (m.renameS src dst) K):Cl P Fn.cF #[pt p 0,S src,S dst] w K:=by
 apply zkK;unfold zg8;rw[M.ab];obtain⟨W,eW⟩:∃W,W=w.alloc (CB ansZ T.ab):=⟨_,rfl⟩;have bW:Below w.heap.size w W:=by rw[eW];repeat (first|exact Below.refl _ _|assumption|refine zag ?_ (by first|omega|(simp only[go_sem]<;>omega)) _|refine Below.alloc ?_ (by first|omega|(simp only[go_sem]<;>omega)) _|refine Below.drew ?_)
 have o:RnX w W B p m F F:=⟨h.old bW,Tr.of_below bW F,by rw[eW];exact zaf _ _ _ rfl,λe=>by have:=h.lt _ e;omega⟩;have eW':W=w.alloc (CB [.int .i64 0,.int .i64 0,.int .i64 0,.slice none 0 0,.slice none 0 0,.slice none 0 0] T.ab):=eW;rw[<-eW'];clear eW eW';have hA:=o.A;have lA:=zaj hA;have n1:=mb.nn;have n2:=mb.dn;unfold SM.Mem.renameS at hk;by_cases ce:src=dst
 ·rw[if_pos ce]at hk;subst ce;have fin:=o.ok hk;have ns:∀l:List UInt8,decide (l=l)=true:=λl=>decide_eq_true rfl;refine zaa (λ_ _=>False) (λ_ _ _ h=>h.elim) ?_;simp(disch:=first|omega|(simp(disch:=first|omega|fail)only[go_sem,ns,hA]<;>omega)|fail)only[go_sem,ns,hA]at fin⊢;exact fin
 rw[if_neg ce]at hk;refine zaa (λt w'=>w'=W) ?_ (by simp(disch:=first|omega|(simp(disch:=first|omega|fail)only[go_sem]<;>omega)|fail)only[go_sem]);rintro t e w1 rfl;unfold zf1;refine zaa (λt w'=>w'=w1/\(m.find src).isSome=true) ?_ ?_;rotate_left
 ·rw[C.aj];refine zcC o.h (by omega) mb.la ?_;cases hf:m.find src with
  |none=>rw[hf]at hk;simp only[Option.isNone_none,if_true]at hk;have fin:=o.err hk;simp only[Option.isSome_none,Option.getD_none];simp(disch:=first|omega|(simp(disch:=first|omega|fail)only[go_sem,hA]<;>omega)|fail)only[go_sem,hA]at fin⊢;exact fin
  |some y=>simp only[Option.isSome_some,Option.getD_some];simp(disch:=first|omega|(simp(disch:=first|omega|fail)only[go_sem]<;>omega)|fail)only[go_sem];exact⟨trivial,trivial⟩
 rintro t e w2 ⟨rfl,hsome⟩;have hnn:¬(m.find src).isNone=true:=by
  cases hf:m.find src with
  |none=>rw[hf]at hsome;cases hsome
  |some y=>simp
 rw[if_neg hnn]at hk;unfold zfZ;rw[C.ar];refine zgz o.h hr mb.la (by omega) mb.nn mb.dn λw3 F3 h3 t3=>?_;have o3:=o.step h3 t3;obtain⟨q1,q2,q3⟩:=SM.zcN m 0 (dst.length+2) dst;obtain⟨wf3,w31,w32,w33,_⟩:=SM.zeU 0 hr (dst.length+2) dst wf;have wf3:SM.Wf (m.parents dst 0):=wf3;have q1:(m.parents dst 0).names.length<=m.names.length+(dst.length+2):=q1;have nl3:∀x∈(m.parents dst 0).names,x.length<=1000000000:=λx hx=>by
  rcases w32 x hx with q|q
  ·exact mb.nl x q
  ·omega
 clear w31 w32 w33 q2 q3;simp only at hk;generalize m.parents dst 0=m1 at*;refine zaa (λt w'=>∃F',RnX w w' B p ((m1.names.filter λn=>decide (n=src)||SM.below n src).foldl (λm n=>m.moved src dst n) m1) F F') ?_ ?_
 ·rintro t e w4 ⟨F4,o4⟩;unfold zaH;exact o4.ok hk
 obtain⟨vn,va,vd,q,ds,hl',c,hbb,ρ,hx3⟩:=o3.h;have bm:=hx3.bm;have bmA:bk (w3.alloc (CB [] T.string)) p=_:=(zax (show Below w3.heap.size w3 (w3.alloc (CB [] T.string)) by repeat (first|exact Below.refl _ _|assumption|refine zag ?_ (by first|omega|(simp only[go_sem]<;>omega)) _|refine Below.alloc ?_ (by first|omega|(simp only[go_sem]<;>omega)) _|refine Below.drew ?_)) (zaj bm)).trans bm;rw[zbJ (n:=1) _ _ U.ae (by kernel_rfl)];simp(disch:=first|omega|(simp(disch:=first|omega|fail)only[go_sem,bmA]<;>omega)|fail)only[go_sem,bmA];refine zoB hx3.on (by omega) λv' w4 o4 b4=>?_;obtain⟨a,cap,ev⟩:=zan o4;have z4:=b4.size;rw[ev,V.ae,<-ev];refine zaA (λt w'=>∃F',∃i:Nat,t=[.int .i64 i]/\i<=m1.names.length/\RnX w w' B p (((m1.names.take i).filter λn=>decide (n=src)||SM.below n src).foldl (λm n=>m.moved src dst n) m1) F F'/\w'.ownsRow w3.heap.size T.string 1 v' m1.names.length (m1.names.map S)/\∀k,v'.ownBlock=some k->¬F'.use k) (λt _=>m1.names.length - (RowKit.intOf (gs t 0)).toNat) ⟨F3,0,rfl,Nat.zero_le _,o3.below b4,o4,λk hk' e=>by have:=(zaW o4 k hk').1;have:=o3.h.lt k e;omega⟩ ?_;rintro t e w5 ⟨F5,i,rfl,hi,o5,ov5,hn5⟩;by_cases g:(i:Int)<m1.names.length
 ·have hix:i<m1.names.length:=by omega
  simp(disch:=first|omega|(simp(disch:=first|omega|fail)only[go_sem]<;>omega)|fail)only[go_sem];refine zaa (λt w'=>t=[]/\w'=w5) ?_ ⟨rfl,rfl⟩;rintro t e w6 ⟨rfl,rfl⟩;unfold zfT;obtain⟨g1,g2,g3,g4,g5⟩:=zjg ov5 rfl hix;have ix:∀M:Value->Prop,pu P (zaO T.aj v' (.int .i64 i)) M=M (pt g1 i):=λM=>g4 .i64 M;have ld:=g5 w6 rfl;have hxl:=nl3 m1.names[i] (List.getElem_mem hix);have et:(m1.names.take (i+1)).filter (λn=>decide (n=src)||SM.below n src)=(m1.names.take i).filter (λn=>decide (n=src)||SM.below n src)++(if(decide (m1.names[i]=src)||SM.below m1.names[i] src)=true then[m1.names[i]]else[]):=by rw[List.take_succ_eq_append_getElem hix,List.filter_append];congr 1;simp only[List.filter_cons,List.filter_nil]
  have hsub:∀k∈(m1.names.take i).filter (λn=>decide (n=src)||SM.below n src),k∈m1.names:=λk hk=>List.mem_of_mem_take (List.mem_filter.1 hk).1;have hprw:((m1.names.take i).filter (λn=>decide (n=src)||SM.below n src)).Pairwise (·<·):=(wf3.srt.sublist (List.take_sublist _ _)).sublist List.filter_sublist;have hnin:m1.names[i]∉(m1.names.take i).filter (λn=>decide (n=src)||SM.below n src):=λhm=>by
   obtain⟨j,hj,e⟩:=List.mem_iff_getElem.1 (List.mem_filter.1 hm).1;rw[List.getElem_take]at e;have hj2:j<i:=by rw[List.length_take]at hj;omega
   exact SM.zbb _ (by have:=List.pairwise_iff_getElem.1 wf3.srt j i (by omega) hix hj2;rw[e]at this;exact this)
  obtain⟨r1,r2,r3⟩:=zot (src:=src) (dst:=dst) _ m1 wf3 hprw hsub;have r4:=zm3 (src:=src) (dst:=dst) _ m1 wf3 hprw hsub _ (List.getElem_mem hix) hnin;have ed:((m1.names.take (i+1)).filter (λn=>decide (n=src)||SM.below n src)).foldl (λm n=>m.moved src dst n) m1=(if(decide (m1.names[i]=src)||SM.below m1.names[i] src)=true then(((m1.names.take i).filter λn=>decide (n=src)||SM.below n src).foldl (λm n=>m.moved src dst n) m1).moved src dst m1.names[i]else((m1.names.take i).filter λn=>decide (n=src)||SM.below n src).foldl (λm n=>m.moved src dst n) m1):=by rw[et,List.foldl_append];split<;>rfl
  clear et hnin hprw hsub;generalize ((m1.names.take i).filter λn=>decide (n=src)||SM.below n src).foldl (λm n=>m.moved src dst n) m1=m2 at*;generalize m1.names[i]=x at*;refine zaa (λt w'=>∃F',RnX w w' B p (((m1.names.take (i+1)).filter λn=>decide (n=src)||SM.below n src).foldl (λm n=>m.moved src dst n) m1) F F'/\w'.ownsRow w3.heap.size T.string 1 v' m1.names.length (m1.names.map S)/\∀k,v'.ownBlock=some k->¬F'.use k) ?_ ?_
  ·rintro t e w7 ⟨F7,o7,ov7,hn7⟩;unfold zas;simp(disch:=first|omega|(simp(disch:=first|omega|fail)only[go_sem]<;>omega)|fail)only[go_sem];refine⟨⟨F7,i+1,rfl,by omega,o7,ov7,hn7⟩,?_⟩;simp only[RowKit.intOf,gs0];omega
  rw[ed];have go:src.length<=x.length->zcf (pt p 0) (S x) w6 (S src) (S dst) (λt w'=>∃F',RnX w w' B p (m2.moved src dst x) F F'/\w'.ownsRow w3.heap.size T.string 1 v' m1.names.length (m1.names.map S)/\∀k,v'.ownBlock=some k->¬F'.use k):=λhle=>ztF o5 r1 r4 (by omega) hle (by omega) (by omega) λw8 F8 o8 t8=>⟨F8,o8,zbI ov5 t8.kp λk hk' e=>hn5 k hk' (o5.h.sub k e),λk hk' e=>hn5 k hk' ((t8.st k (zaW ov5 k hk').2).2 e)⟩
  by_cases cx:x=src
  ·rw[if_pos (by simp[cx])];simp(disch:=first|omega|(simp(disch:=first|omega|fail)only[go_sem,ix,ld]<;>omega)|fail)only[go_sem,ix,ld];exact go (by rw[cx];exact Nat.le_refl _)
  ·cases cb:SM.below x src with
   |true=>
    have hlt:src.length<=x.length:=by unfold SM.below at cb;rw[if_neg (hne.resolve_left ce)]at cb;simp only[Bool.and_eq_true,decide_eq_true_eq]at cb;omega
    rw[if_pos (by simp)];simp(disch:=first|omega|(simp(disch:=first|omega|fail)only[go_sem,ix,ld]<;>omega)|fail)only[go_sem,ix,ld];refine zg9 (by omega) (by omega) ?_;rw[cb];simp(disch:=first|omega|(simp(disch:=first|omega|fail)only[go_sem]<;>omega)|fail)only[go_sem];exact go hlt
   |false=>rw[if_neg (by simp[cx])];simp(disch:=first|omega|(simp(disch:=first|omega|fail)only[go_sem,ix,ld]<;>omega)|fail)only[go_sem,ix,ld];refine zg9 (by omega) (by omega) ?_;rw[cb];simp(disch:=first|omega|(simp(disch:=first|omega|fail)only[go_sem]<;>omega)|fail)only[go_sem];exact⟨F5,o5,ov5,hn5⟩
 ·have ei:i=m1.names.length:=by omega
  subst ei;rw[List.take_length]at o5;simp(disch:=first|omega|(simp(disch:=first|omega|fail)only[go_sem]<;>omega)|fail)only[go_sem];exact zaa (λ_ _=>False) (λ_ _ _ h=>h.elim) ⟨F5,o5⟩
set_option maxHeartbeats 2000000 in
theorem zqR(h:MemS w B p m F)(hv:∃a c,v=.slice a s.data.length c)(hop:3<=s.op/\s.op<=11)(hn:s.name.length<=400)(ho:s.other.length<=400)(hr:(m.find [47]).isSome=true)(wf:SM.Wf m)(mb:MB m)(hren:s.op=7->norm s.name=norm s.other\/norm s.name≠[47])(hk:zcx w B p F (m.namesS s) K):Cl P Fn.cO #[pt p 0,AG (zaC s v)] w K:=by
 apply zli;unfold zhS;obtain⟨W,eW,BW,zW,bS,bA⟩:=zjT w s v;rw[zcJ,M.ab,eW,show(w.alloc (CB (zaC s v) T.ae)).heap.size=w.heap.size+1 by simp only[go_sem]];obtain⟨av,cv,ev⟩:=hv;have ov:v.oneCell'=true:=by rw[ev];rfl
 have hnl:=zbH s.name;have hol:=zbH s.other;simp(disch:=first|omega|(simp(disch:=first|omega|fail)only[go_sem,bS]<;>omega)|fail)only[go_sem,bS];refine zb8 hn λw1 b1=>?_;have o:NmX w w1 B p m F F s v:=(ztA h zW BW bS bA).below b1;clear bS bA BW zW eW b1;have hS:=o.S;have hA:=o.A;have lA:=zaj hA;unfold SM.Mem.namesS at hk;generalize hnm:norm s.name=nm at*;by_cases c9:s.op=9/\nm≠s.name
 ·rw[if_pos c9]at hk;have fin:=o.err hk;refine zaa (λ_ _=>False) (λ_ _ _ h=>h.elim) ?_;have c91:=c9.1;have d9:decide (nm≠s.name)=true:=decide_eq_true c9.2;simp(disch:=first|omega|(simp(disch:=first|omega|fail)only[go_sem,hS,hA,d9]<;>omega)|fail)only[go_sem,hS,hA,d9]at fin⊢;exact fin
 rw[if_neg c9]at hk;refine zaa (λt w'=>w'=w1) ?_ ?_;rotate_left
 ·by_cases c91:s.op=9
  ·have d9:decide (nm≠s.name)=false:=decide_eq_false λq=>c9 ⟨c91,q⟩;simp(disch:=first|omega|(simp(disch:=first|omega|fail)only[go_sem,hS,d9]<;>omega)|fail)only[go_sem,hS,d9]
  ·simp(disch:=first|omega|(simp(disch:=first|omega|fail)only[go_sem,hS]<;>omega)|fail)only[go_sem,hS]
 rintro t e w2 rfl;unfold zf7;rw[C.aj];refine zcC o.h (by have:=mb.nn;omega) mb.la ?_;have lt:∀x,m.find nm=some x->x<m.nodes.length:=λx e=>wf.find_lt e;simp(disch:=first|omega|(simp(disch:=first|omega|fail)only[go_sem]<;>omega)|fail)only[go_sem];simp only at hk;refine zaa (λt w'=>w'=w2/\(m.find nm).isSome=(m.find nm).isSome/\s.op≠3/\s.op≠4/\s.op≠6/\s.op≠7) ?_ ?_;rotate_left
 ·simp(disch:=first|omega|(simp(disch:=first|omega|fail)only[go_sem,hS]<;>omega)|fail)only[go_sem,hS];have dir:∀b:Bool,(s.op=3\/s.op=4)->zcc (pt (w.heap.size+1) 0) K (.bool (m.find nm).isSome) (pt w.heap.size 0) (pt p 0) (S nm) w2:=λ_ c=>by rw[if_pos c]at hk;exact zr1 o ov hr mb (by omega) c hk
  by_cases c3:s.op=3
  ·refine zaa (λt w'=>w'=w2/\t=[.bool true]) ?_ (by simp(disch:=first|omega|(simp(disch:=first|omega|fail)only[go_sem]<;>omega)|fail)only[go_sem];exact⟨trivial,trivial⟩);rintro t e w3 ⟨rfl,rfl⟩;unfold zcb;simp(disch:=first|omega|(simp(disch:=first|omega|fail)only[go_sem]<;>omega)|fail)only[go_sem];exact dir true (.inl c3)
  by_cases c4:s.op=4
  ·refine zaa (λt w'=>w'=w2/\t=[.bool true]) ?_ (by simp(disch:=first|omega|(simp(disch:=first|omega|fail)only[go_sem]<;>omega)|fail)only[go_sem];exact⟨trivial,trivial⟩);rintro t e w3 ⟨rfl,rfl⟩;unfold zcb;simp(disch:=first|omega|(simp(disch:=first|omega|fail)only[go_sem]<;>omega)|fail)only[go_sem];exact dir true (.inr c4)
  refine zaa (λt w'=>w'=w2/\t=[.bool false]) ?_ (by simp(disch:=first|omega|(simp(disch:=first|omega|fail)only[go_sem]<;>omega)|fail)only[go_sem];exact⟨trivial,trivial⟩);rintro t e w3 ⟨rfl,rfl⟩;rw[if_neg (by omega)]at hk;unfold zcb;simp(disch:=first|omega|(simp(disch:=first|omega|fail)only[go_sem]<;>omega)|fail)only[go_sem];unfold zf6;by_cases c6:s.op=6
  ·rw[if_pos c6]at hk;simp(disch:=first|omega|(simp(disch:=first|omega|fail)only[go_sem]<;>omega)|fail)only[go_sem];exact zsf o mb (by omega) hk
  rw[if_neg c6]at hk;simp(disch:=first|omega|(simp(disch:=first|omega|fail)only[go_sem]<;>omega)|fail)only[go_sem];unfold zfY;by_cases c7:s.op=7
  ·rw[if_pos c7]at hk;simp(disch:=first|omega|(simp(disch:=first|omega|fail)only[go_sem]<;>omega)|fail)only[go_sem];unfold zfH;simp(disch:=first|omega|(simp(disch:=first|omega|fail)only[go_sem,hS]<;>omega)|fail)only[go_sem,hS];refine zb8 ho λw4 b4=>?_;have o4:=o.below b4;refine zph o4.h hr wf mb (by omega) (by omega) (hren c7) λw' F' c h' t' a'=>?_;have o5:=o4.step h' t';have hA5:=o5.A;have lA5:=zaj hA5;have z4:=b4.size;have z5:=t'.kp.size;have nc0:=a';obtain⟨x,y,z,rfl,hx,hy,hz,hown⟩:=a';obtain⟨p1,c1,rfl⟩:=zay hx;obtain⟨p2,c2,rfl⟩:=zaX hy;obtain⟨p3,c3',rfl⟩:=zaX hz;simp(disch:=first|omega|(simp(disch:=first|omega|fail)only[go_sem,hA5]<;>omega)|fail)only[go_sem,hA5];obtain⟨e1,e2,e3⟩:=zbG o5.h o5.t (A:=w.heap.size+1) (by omega) o5.nA (nc0.less (by have:=zaj hA;omega)) (CB (zbq (m.renameS nm (norm s.other)).2 (.slice p1 (m.renameS nm (norm s.other)).2.data.length c1) (.slice p2 (m.renameS nm (norm s.other)).2.names.length c2) (.slice p3 (m.renameS nm (norm s.other)).2.infos.length c3')) T.ab);exact hk _ _ _ e1 e2 e3
  ·simp(disch:=first|omega|(simp(disch:=first|omega|fail)only[go_sem]<;>omega)|fail)only[go_sem];exact⟨trivial,trivial,c3,c4,c6,c7⟩
 rintro t e w3 ⟨rfl,_,c3,c4,c6,c7⟩;rw[if_neg (by omega),if_neg c6,if_neg c7]at hk;unfold zgC;cases hf:m.find nm with
 |none=>rw[hf]at hk;have fin:=o.err hk;simp only[Option.isSome_none];refine zaa (λ_ _=>False) (λ_ _ _ h=>h.elim) ?_;simp(disch:=first|omega|(simp(disch:=first|omega|fail)only[go_sem,hS,hA]<;>omega)|fail)only[go_sem,hS,hA]at fin⊢;exact fin
 |some x=>
  rw[hf]at hk;simp only at hk;have hx:=lt x hf;simp only[Option.isSome_some,Option.getD_some];refine zaa (λt w'=>w'=w3) ?_ (by simp(disch:=first|omega|(simp(disch:=first|omega|fail)only[go_sem]<;>omega)|fail)only[go_sem]);rintro t e w4 rfl;unfold zgx;refine zaa (λt w'=>∃F' m',NmX w w' B p m' F F' s v/\zcx w B p F (m',SM.Ans.z) K) ?_ ?_
  ·rintro t e w5 ⟨F5,m5,o5,hk5⟩;unfold zaH;exact o5.ok hk5
  by_cases c5:s.op=5
  ·rw[if_pos c5]at hk;simp(disch:=first|omega|(simp(disch:=first|omega|fail)only[go_sem,hS]<;>omega)|fail)only[go_sem,hS];exact zl7 o.h (by have:=mb.nn;omega) mb.la λw5 F5 h5 t5=>⟨F5,_,o.step h5 t5,hk⟩
  rw[if_neg c5]at hk;simp(disch:=first|omega|(simp(disch:=first|omega|fail)only[go_sem,hS]<;>omega)|fail)only[go_sem,hS];unfold zgs;by_cases c8:s.op=8
  ·rw[if_pos c8]at hk;simp(disch:=first|omega|(simp(disch:=first|omega|fail)only[go_sem]<;>omega)|fail)only[go_sem];exact zte o mb hx hk
  rw[if_neg c8]at hk;simp(disch:=first|omega|(simp(disch:=first|omega|fail)only[go_sem]<;>omega)|fail)only[go_sem];unfold zgl;by_cases c9':s.op=9
  ·rw[if_pos c9']at hk;simp(disch:=first|omega|(simp(disch:=first|omega|fail)only[go_sem]<;>omega)|fail)only[go_sem];exact zsY o ov hx λW' o'=>⟨F,_,o',hk⟩
  rw[if_neg c9']at hk;simp(disch:=first|omega|(simp(disch:=first|omega|fail)only[go_sem]<;>omega)|fail)only[go_sem];unfold zgq;by_cases c11:s.op=11
  ·rw[if_pos c11]at hk;simp(disch:=first|omega|(simp(disch:=first|omega|fail)only[go_sem]<;>omega)|fail)only[go_sem];exact zs8 o ov hx λW' o'=>⟨F,_,o',hk⟩
  ·rw[if_neg c11]at hk;simp(disch:=first|omega|(simp(disch:=first|omega|fail)only[go_sem]<;>omega)|fail)only[go_sem];exact⟨F,_,o,hk⟩
theorem ztB(h:MemS w B p m F)(hv:∃a c,v=.slice a s.data.length c)(hop:3<=s.op/\s.op<=11)(hn:s.name.length<=400)(ho:s.other.length<=400)(hr:(m.find [47]).isSome=true)(wf:SM.Wf m)(mb:MB m)(hren:s.op=7->norm s.name=norm s.other\/norm s.name≠[47])(i:Int)(hk:zcx w B p F (m.doS i s) K):Cl P Fn.bX #[pt p 0,.int .i64 i,AG (zaC s v)] w K:=by
 apply zhJ;unfold zfv;obtain⟨W,eW,BW,zW,bS,bA⟩:=zjT w s v;rw[zcJ,M.ab,eW,show(w.alloc (CB (zaC s v) T.ae)).heap.size=w.heap.size+1 by simp only[go_sem]];unfold SM.Mem.doS at hk;rw[if_neg (by omega),if_pos hop]at hk;obtain⟨av,cv,ev⟩:=hv;have ov:v.oneCell'=true:=by rw[ev];rfl
 refine zaa (λ_ _=>False) (λ_ _ _ h=>h.elim) ?_;simp(disch:=first|omega|(simp(disch:=first|omega|fail)only[go_sem,bS,ov]<;>omega)|fail)only[go_sem,bS,ov];unfold zeb;simp(disch:=first|omega|(simp(disch:=first|omega|fail)only[go_sem,bS,ov]<;>omega)|fail)only[go_sem,bS,ov];exact zqR (h.old BW) ⟨av,cv,ev⟩ hop hn ho hr wf mb hren (zrL h zW BW bA hk)
end
end Go.Proofs.YtdljebgllipdjaaGreatDoor.X
end
section
namespace Go.X
open Go
theorem zjM(b:BitVec 64)(h:b.toNat<2^63):b.toInt=(b.toNat:Int):=by rw[BitVec.toInt_eq_toNat_cond,if_pos (by omega)]
theorem zfz{c:Nat}(h:c<2^63):(BitVec.ofInt 64 (c:Int)).toNat=c:=by rw[BitVec.ofInt_natCast,BitVec.toNat_ofNat,Nat.mod_eq_of_lt (by omega)]
theorem zpF(x:Int){c:Nat}(hc:c<2^63):andI x c=(((BitVec.ofInt 64 x).toNat&&&c:Nat):Int):=by
 have e:(BitVec.ofInt 64 x&&&BitVec.ofInt 64 (c:Int)).toNat=(BitVec.ofInt 64 x).toNat&&&c:=by rw[BitVec.toNat_and,zfz hc]
 unfold andI;rw[zjM _ (by rw[e];exact Nat.lt_of_le_of_lt Nat.and_le_right hc),e]
theorem zq7{a b:Nat}(ha:a<2^63)(hb:b<2^63):orI a b=((a|||b:Nat):Int):=by
 have e:(BitVec.ofInt 64 (a:Int)|||BitVec.ofInt 64 (b:Int)).toNat=a|||b:=by rw[BitVec.toNat_or,zfz ha,zfz hb]
 unfold orI;rw[zjM _ (by rw[e];exact Nat.or_lt_two_pow ha hb),e]
theorem zg0(x:Int){c:Nat}(hc:c<2^63):0<=andI x c/\andI x c<=c:=by rw[zpF x hc];have:(BitVec.ofInt 64 x).toNat&&&c<=c:=Nat.and_le_right;omega
theorem zjJ(x:Int):IntKind.u32.wrap x=x%4294967296:=by simp[IntKind.wrap,IntKind.bits,IntKind.signed]
theorem zrn(x:Int):(IntKind.u32.wrap x).toNat=(BitVec.ofInt 64 x).toNat%2^32:=by rw[zjJ,BitVec.toNat_ofInt];have e:x%4294967296=x%((2^64:Nat):Int)%4294967296:=(Int.emod_emod_of_dvd x (by decide)).symm;rw[e];have h0:0<=x%((2^64:Nat):Int):=Int.emod_nonneg _ (by decide);obtain⟨n,hn⟩:=Int.eq_ofNat_of_zero_le h0;rw[hn];show((n:Int)%((4294967296:Nat):Int)).toNat=_;omega
theorem znf(x:Int){c:Nat}(hc:c<2^32):(((IntKind.u32.wrap x).toNat&&&c:Nat):Int)=andI x c:=by rw[zpF x (by omega),zrn];congr 1;rw[<-Nat.and_two_pow_sub_one_eq_mod,Nat.and_assoc];congr 1;rw[Nat.and_comm,Nat.and_two_pow_sub_one_eq_mod,Nat.mod_eq_of_lt hc]
theorem zoU{a c:Nat}(ha:a<2^32)(hc:c<2^32):zcq a c=((a&&&(2^32 - 1 - c):Nat):Int):=by
 have e:(BitVec.ofInt 64 (a:Int)&&&~~~BitVec.ofInt 64 (c:Int)).toNat=a&&&(2^32 - 1 - c):=by
  rw[BitVec.toNat_and,BitVec.toNat_not,zfz (by omega),zfz (by omega)];apply Nat.eq_of_testBit_eq;intro i;rw[Nat.testBit_and,Nat.testBit_and,show 2^64 - 1 - c=2^64 - (c+1) by omega,show 2^32 - 1 - c=2^32 - (c+1) by omega,Nat.testBit_two_pow_sub_succ (by omega),Nat.testBit_two_pow_sub_succ hc];by_cases h:i<32
  ·have h2:i<64:=by omega
   simp[h,h2]
  ·have:a.testBit i=false:=Nat.testBit_lt_two_pow (Nat.lt_of_lt_of_le ha (Nat.pow_le_pow_right (by omega) (by omega)));simp[this]
 unfold zcq;rw[zjM _ (by rw[e];exact Nat.lt_of_le_of_lt Nat.and_le_left (by omega)),e]
theorem zn0{m b:Int}(hm:0<=m/\m<=4294967295)(hb:0<=b/\b<=13631999):(((m.toNat&&&4281335296:Nat):Int).toNat|||b.toNat:Nat)=orI (zcq m 13631999) b:=by
 obtain⟨a,rfl⟩:=Int.eq_ofNat_of_zero_le hm.1;obtain⟨c,rfl⟩:=Int.eq_ofNat_of_zero_le hb.1;have ha:a<2^32:=by omega
 have hc:c<2^63:=by omega
 have e:=zoU ha (show(13631999:Nat)<2^32 by decide);rw[show((13631999:Nat):Int)=13631999 from rfl]at e;have hl:a&&&(2^32 - 1 - 13631999)<2^63:=Nat.lt_of_le_of_lt Nat.and_le_left (by omega);rw[e,zq7 hl hc];rfl
theorem zq0{b:Int}(hb:0<=b/\b<=4294967295):orI 2147483648 b=((2147483648|||b.toNat:Nat):Int):=by obtain⟨c,rfl⟩:=Int.eq_ofNat_of_zero_le hb.1;exact zq7 (a:=2147483648) (by decide) (by omega)
end Go.X
end
section
namespace Go.Proofs.YtdljebgllipdjaaGreatDoor.X
open Go Go.X Go.Proofs Go.RowKit Go.X.PM Go.Lib
def FsI(w0:World)(F0:Fp)(w:World)(B p:Nat)(m:SM.Mem)(hp:Int->Nat)(se:Nat->Nat×Nat):Prop:=∃s mb rep ps,PT w0 F0 w B p s mb rep se/\PM.Rel s m ps hp [] none
structure FsU(w0:World)(F0:Fp)(w:World)(B p:Nat)(m:SM.Mem)(se:Nat->Nat×Nat):Prop where
 hp:B<=p
 bp:bk w p=some (CB [.map none] T.aL)
 m0:m=SM0
 tr:Tr w0 w F0 ⟨(·=p),(·=p)⟩
 sn:Sn w B se
def FsT(w0:World)(F0:Fp)(w:World)(B p:Nat)(m:SM.Mem)(hp:Int->Nat)(se:Nat->Nat×Nat):Prop:=FsI w0 F0 w B p m hp se\/FsU w0 F0 w B p m se
def FileR(w0:World)(F0:Fp)(w:World)(B p:Nat)(m:SM.Mem)(hp:Int->Nat)(se:Nat->Nat×Nat)(f:Nat)(h:SM.Hnd):Prop:=∃s mb rep ps,PT w0 F0 w B p s mb rep se/\PM.Rel s m ps hp [] none/\s.hs f=some ⟨pt' ps h.node,h.pos,h.listed,h.cl,h.ro⟩/\(h.node<m.nodes.length/\h.cl=false)/\∀k a,SM.hget m.hs k=some a->hp k≠f
section
variable{w w' w0:World}{F0:Fp}{K:Value->World->Prop}{B p mb:Nat}{s:PM.St}{rep:Nat->Rep}{se:Nat->Nat×Nat}
 {m:SM.Mem} {ps:List Nat} {hp:Int->Nat} {E:PM.Ex} {X:Option Str}
theorem FsT.old(h:FsT w0 F0 w B p m hp se)(k:Below w.heap.size w w'):FsT w0 F0 w' B p m hp se:=by
 rcases h with⟨s,mb,rep,ps,h1,h2⟩|h
 ·exact .inl ⟨s,mb,rep,ps,h1.old k,h2⟩
 ·have l:=zaj h.bp;exact .inr ⟨h.hp,(zax k l).trans h.bp,h.m0,h.tr.after k,h.sn.below (k.mono (by have:=h.hp;omega))⟩
theorem FileR.old{f:Nat}{h:SM.Hnd}(r:FileR w0 F0 w B p m hp se f h)(k:Below w.heap.size w w'):FileR w0 F0 w' B p m hp se f h:=by obtain⟨s,mb,rep,ps,h1,h2⟩:=r;exact⟨s,mb,rep,ps,h1.old k,h2⟩
theorem FileR.I{f:Nat}{h:SM.Hnd}(r:FileR w0 F0 w B p m hp se f h):FsI w0 F0 w B p m hp se:=by obtain⟨s,mb,rep,ps,h1,h2,_⟩:=r;exact⟨s,mb,rep,ps,h1,h2⟩
theorem FileR.number{f:Nat}{h:SM.Hnd}(r:FileR w0 F0 w B p m hp se f h)(i:Int):FsI w0 F0 w B p (m.setH i h) (λk=>if k=i then f else hp k) se:=by
 obtain⟨s,mb,rep,ps,h1,h2,h3,h4,h5⟩:=r;refine⟨s,mb,rep,ps,h1,⟨h2.mi.setH i h,h2.len,h2.inj,h2.g,h2.nd,h2.ex,h2.exd,h2.exn,⟨λj a hh=>?_,λj j' a a' e e' hj=>?_⟩⟩⟩
 ·have hh:SM.hget (SM.hput m.hs i h) j=some a:=hh;rw[SM.zbP]at hh;by_cases c:j=i
  ·rw[if_pos c]at hh;injection hh with hh;subst hh c;simp only[if_true];exact⟨h4.1,h.pos,⟨λ_=>rfl,λe=>by rw[h4.2]at e;cases e⟩,h3⟩
  ·rw[if_neg c]at hh;simp only[if_neg c];exact h2.hs.at_ j a hh
 ·have e:SM.hget (SM.hput m.hs i h) j=some a:=e;have e':SM.hget (SM.hput m.hs i h) j'=some a':=e';rw[SM.zbP]at e e';by_cases c:j=i
  ·by_cases c':j'=i
   ·rw[c,c']
   ·rw[if_neg c']at e';simp only[if_pos c,if_neg c']at hj;exact absurd hj.symm (h5 j' a' e')
  ·rw[if_neg c]at e;by_cases c':j'=i
   ·simp only[if_neg c,if_pos c']at hj;exact absurd hj (h5 j a e)
   ·rw[if_neg c']at e';simp only[if_neg c,if_neg c']at hj;exact h2.hs.inj j j' a a' e e' hj
theorem rel0(d:Nat):PM.Rel (((⟨λ_=>none,λ_=>none,λ_=>none⟩:PM.St).setNd d ⟨⟨true,2147484141,[],0,[47]⟩,some λ_=>none⟩).putG [47] (some d)) SM0 [d] hp [] none:=by
 have fr:SM0.find [47]=some 0:=rfl;have fn:∀q,q≠[47]->SM0.find q=none:=λq hq=>by have wf:SM.Wf SM0:=⟨by simp[SM0],rfl,by simp[SM0]⟩;exact(SM.zco wf q).2 (by simpa[SM0]using hq)
 have wf:SM.Wf SM0:=⟨by simp[SM0],rfl,by simp[SM0]⟩;have nm:∀q x,SM0.find q=some x->q=[47]/\x=0:=λq x e=>by
  by_cases c:q=[47]
  ·rw[c,fr]at e;injection e with e;exact⟨c,e.symm⟩
  ·rw[fn q c]at e;cases e
 refine⟨⟨wf,rfl,λq x e=>?_,λq x e hq _=>absurd (nm q x e).1 hq,λq x e=>by rw[(nm q x e).1];exact .inl rfl⟩,rfl,by simp,λq=>?_,λx hx=>?_,λe he=>(by cases he),List.nodup_nil,List.nodup_nil,⟨λk h hh=>(by cases hh),λk k' h h' e=>(by cases e)⟩⟩
 ·obtain⟨rfl,rfl⟩:=nm q x e;rfl
 ·simp only[St.putG,St.setNd,eg,Option.none_or];by_cases c:q=[47]
  ·rw[if_pos c,c,fr];rfl
  ·rw[if_neg c,fn q c];rfl
 ·have:x=0:=by have:x<1:=hx;omega
  subst this;refine⟨some λ_=>none,by simp[St.putG,St.setNd,pt',SM0,SM.Mem.node],.inr ⟨rfl,_,rfl,λ_ q _=>?_⟩⟩;by_cases c:q=[47]
  ·rw[if_neg (λh=>h.1 c)]
  ·rw[fn q c];split<;>rfl
theorem zkq(h:FsU w0 F0 w B p m se)(hk:∀w' s mb rep ps,PT w0 F0 w' B p s mb rep se->PM.Rel s m ps hp [] none->Kp w w' (·=p)->(∀b,Own p mb s rep b->b=p\/w.heap.size<=b)->K (.map (some mb)) w'):Cl P Fn.ab #[pt p 0] w K:=by
 obtain⟨hBp,hb,rfl,tr,sn⟩:=h;apply zds;unfold zbW;have lp:=zaj hb;refine zaa (λt w'=>∃s mb rep ps,PT w0 F0 w' B p s mb rep se/\PM.Rel s SM0 ps hp [] none/\Kp w w' (·=p)/\∀b,Own p mb s rep b->b=p\/w.heap.size<=b) ?_ ?_
 ·rintro t e w1 ⟨s,mb,rep,ps,h1,h2,h3,h4⟩;have hb1:=h1.pf.bp;simp(disch:=first|omega|(simp(disch:=first|omega|fail)only[go_sem,hb1]<;>omega)|fail)only[go_sem,hb1];exact hk w1 s mb rep ps h1 h2 h3 h4
 ·simp(disch:=first|omega|(simp(disch:=first|omega|fail)only[go_sem,hb]<;>omega)|fail)only[go_sem,hb];rw[oEqlM U.af];rw[znh (emb:=emS)];simp(disch:=first|omega|(simp(disch:=first|omega|fail)only[go_sem,Option.isNone_none]<;>omega)|fail)only[go_sem,Option.isNone_none];obtain⟨wa,ea⟩:∃wa,wa=w.alloc (MO emS [] 0):=⟨_,rfl⟩;have za:wa.heap.size=w.heap.size+1:=by rw[ea];simp only[go_sem]
  have ba:bk wa w.heap.size=some (MO emS [] 0):=by rw[ea];exact zaf _ _ _ rfl
  have Ba:Below w.heap.size w wa:=by rw[ea];repeat (first|exact Below.refl _ _|assumption|refine zag ?_ (by first|omega|(simp only[go_sem]<;>omega)) _|refine Below.alloc ?_ (by first|omega|(simp only[go_sem]<;>omega)) _|refine Below.drew ?_)
  have hba:=(zax Ba lp).trans hb;rw[<-ea];obtain⟨mb,emb⟩:∃mb,mb=w.heap.size:=⟨_,rfl⟩;rw[<-emb]at ba⊢;obtain⟨wb,eb⟩:∃wb,wb=setb wa p (CB [.map (some mb)] T.aL):=⟨_,rfl⟩;have kb:=Kp.setb wa p (CB [.map (some mb)] T.aL);rw[<-eb]at kb;have bpb:bk wb p=some (CB [.map (some mb)] T.aL):=by rw[eb];exact zap _ _ _ _ rfl (by omega)
  have bmb:bk wb mb=some (MO emS [] 0):=by rw[kb.block _ (by omega) (by omega)];exact ba
  have kab:Kp w wb (·=p):=(Kp.of_below Ba (·=p)).trans kb λ_ _ h=>h;have snb:Sn wb B se:=sn.below (kab.below (λk hk e=>by omega) (by omega));have ow0:∀b,Own p mb ⟨λ_=>none,λ_=>none,λ_=>none⟩ (λ_=>⟨.slice none 0 0,0⟩) b->b=p\/b=mb:=by
   rintro b (q|q|⟨d,n,hd,_⟩|⟨hh,hf⟩)
   ·exact .inl q
   ·exact .inr q
   ·cases hd
   ·cases hf
  have pf0:PF wb B p ⟨λ_=>none,λ_=>none,λ_=>none⟩ mb (λ_=>⟨.slice none 0 0,0⟩):=⟨hBp,bpb,by omega,⟨[],0,bmb,MWF.nil 0,λq=>rfl⟩,λd n hd=>(by cases hd),λf hh hf=>(by cases hf),λd d' n n' b hd=>(by cases hd),λd d' n n' hd=>(by cases hd),λd n hd=>(by cases hd)⟩
  have pt0:=PT.start pf0 snb;simp(disch:=first|omega|(simp(disch:=first|omega|fail)only[go_sem,hba]<;>omega)|fail)only[go_sem,hba];rw[<-eb];refine zeI pt0 λd rd w6 hd0 h6=>?_;refine zeR h6 (n:=⟨⟨true,0,[],0,[47]⟩,some λ_=>none⟩) (by simp[St.setNd]) λw7 h7=>?_;rw[zqc]at h7;have bp7:=h7.pf.bp;simp(disch:=first|omega|(simp(disch:=first|omega|fail)only[go_sem,bp7]<;>omega)|fail)only[go_sem,bp7];refine h7.put [47] d λw8 h8=>?_;have zb:wb.heap.size=w.heap.size+1:=by rw[eb,sZb];exact za
  have t2:Tr w wb ⟨(·=p),(·=p)⟩ (fpOf p mb ⟨λ_=>none,λ_=>none,λ_=>none⟩ (λ_=>⟨.slice none 0 0,0⟩)):=⟨kab,λb hb=>by
   have key:Own p mb ⟨λ_=>none,λ_=>none,λ_=>none⟩ (λ_=>⟨.slice none 0 0,0⟩) b->b=p:=λq=>(ow0 b q).elim id λe=>by omega
   exact⟨key,key⟩⟩
  refine⟨_,mb,_,[d],⟨h8.pf,(tr.trans t2).trans h8.tr,h8.sn⟩,rel0 d,kab.trans h8.tr.kp λx hx q=>(ow0 x q).elim id λe=>by omega,λb hb=>?_⟩;by_cases c:b<wb.heap.size
  ·rcases ow0 b ((h8.tr.st b c).1 hb)with q|q
   ·exact .inl q
   ·exact .inr (by omega)
  ·exact .inr (by omega)
end
section
variable{w w' w0:World}{F0:Fp}{K:Value->World->Prop}{B p mb:Nat}{s:PM.St}{rep:Nat->Rep}{se:Nat->Nat×Nat}
 {m:SM.Mem} {ps:List Nat} {hp:Int->Nat} {E:PM.Ex} {X:Option Str}
theorem zcd(h:FsT w0 F0 w B p m hp se)(hk:∀w' s mb rep ps,PT w0 F0 w' B p s mb rep se->PM.Rel s m ps hp [] none->K (.map (some mb)) w'):Cl P Fn.ab #[pt p 0] w K:=by
 rcases h with⟨s,mb,rep,ps,h1,h2⟩|h
 ·exact zaF h1.pf (hk w s mb rep ps h1 h2)
 ·exact zkq h λw' s mb rep ps h1 h2 _ _=>hk w' s mb rep ps h1 h2
theorem PT.new2(h:PT w0 F0 w B p s mb rep se){d:Nat}{n:PM.Nd}{r:Rep}(hd:w0.heap.size<=d)(hf:¬Own p mb s rep d)(N:QN w B d n r)(hv:r.v.ownBlock=none)(hk:n.kids=none):PT w0 F0 w B p (s.setNd d n) mb (λk=>if k=d then r else rep k) se:=by
 have H:=h.pf;have fr:s.nd d=none:=by
  cases e:s.nd d with
  |none=>rfl
  |some n=>exact absurd (.inr (.inr (.inl ⟨d,n,e,.inl rfl⟩))) hf
 have cs:∀e ne,(s.setNd d n).nd e=some ne->(e=d/\ne=n)\/(e≠d/\s.nd e=some ne):=λe ne he=>by
  simp only[St.setNd]at he;by_cases c:e=d
  ·rw[if_pos c]at he;injection he with he;exact .inl ⟨c,he.symm⟩
  ·rw[if_neg c]at he;exact .inr ⟨c,he⟩
 refine⟨⟨H.hp,H.bp,H.hm,H.map,λe ne he=>?_,H.hand,λe e' ne ne' b he he' h1 h2=>?_,λe e' ne ne' he he' k1 k2 h3=>?_,λe ne he hk'=>?_⟩,⟨h.tr.kp,λb hb=>?_⟩,h.sn⟩
 ·rcases cs e ne he with⟨rfl,rfl⟩|⟨c,q⟩
  ·simp only[if_pos];exact N
  ·simp only[if_neg c];exact H.node e ne q
 ·rcases cs e ne he with⟨c,q⟩|⟨c,q⟩
  ·rw[if_pos c,hv]at h1;cases h1
  ·rcases cs e' ne' he' with⟨c',q'⟩|⟨c',q'⟩
   ·rw[if_pos c',hv]at h2;cases h2
   ·rw[if_neg c]at h1;rw[if_neg c']at h2;exact H.sv e e' ne ne' b q q' h1 h2
 ·rcases cs e ne he with⟨c,q⟩|⟨c,q⟩
  ·rw[q,hk]at k1;cases k1
  ·rcases cs e' ne' he' with⟨c',q'⟩|⟨c',q'⟩
   ·rw[q',hk]at k2;cases k2
   ·rw[if_neg c,if_neg c']at h3;exact H.sk e e' ne ne' q q' k1 k2 h3
 ·rcases cs e ne he with⟨c,q⟩|⟨c,q⟩
  ·rw[q,hk]at hk';cases hk'
  ·rw[if_neg c];exact H.km e ne q hk'
 ·have key:Own p mb (s.setNd d n) (λk=>if k=d then r else rep k) b->Own p mb s rep b:=by
   rintro(q|q|⟨e,ne,he,q⟩|q)
   ·exact .inl q
   ·exact .inr (.inl q)
   ·simp only at q;rcases cs e ne he with⟨c,q'⟩|⟨c,q'⟩
    ·rw[if_pos c]at q;rcases q with q|q|⟨q1,q2⟩
     ·omega
     ·rw[hv]at q;cases q
     ·rw[q',hk]at q1;cases q1
    ·rw[if_neg c]at q;exact .inr (.inr (.inl ⟨e,ne,q',q⟩))
   ·exact .inr (.inr (.inr q))
  exact⟨λq=>(h.tr.st b hb).1 (key q),λq=>(h.tr.st b hb).2 (key q)⟩
theorem zfy{g:Nat}(hg:g∈sents)(sn:Sn w B se)(op nm:Str){L:Value->World->Prop}(hL:∀w' x,Below w.heap.size w w'->PE w' w.heap.size x op (se g)->L x w'):
  st P (zab T.aB (.pointer (some ⟨g,0,none⟩))) w λt w1=>pu P (zaw T.au #[(0,S op),(1,S nm),(2,t)]) λt2=>st P (oBox T.au t2) w1 λt3 w2=>pu P (zbl T.aD t3) λt4=>L t4 w2:=by
 rw[sn.load hg];simp(disch:=first|omega|(simp(disch:=first|omega|fail)only[go_sem]<;>omega)|fail)only[go_sem];rw[zk7];exact hL _ _ (by repeat (first|exact Below.refl _ _|assumption|refine zag ?_ (by first|omega|(simp only[go_sem]<;>omega)) _|refine Below.alloc ?_ (by first|omega|(simp only[go_sem]<;>omega)) _|refine Below.drew ?_)) ⟨_,nm,rfl,zaf _ _ _ rfl,Nat.le_refl _⟩
theorem zm2{g:Nat}(hg:g∈sents)(sn:Sn w B se)(op nm:Str){L:Value->World->Prop}(hL:∀w' x,Below w.heap.size w w'->PE w' w.heap.size x op (se g)->L x w'):
  rd P (zab T.aB (.pointer (some ⟨g,0,none⟩))) w λt=>pu P (zaw T.au #[(0,S op),(1,S nm),(2,t)]) λt2=>st P (oBox T.au t2) w λt3 w2=>pu P (zbl T.aD t3) λt4=>L t4 w2:=by
 obtain⟨q,t,e1⟩:=sn.at_ g hg;simp(disch:=first|omega|(simp(disch:=first|omega|fail)only[go_sem,e1]<;>omega)|fail)only[go_sem,e1];rw[zk7];exact hL _ _ (by repeat (first|exact Below.refl _ _|assumption|refine zag ?_ (by first|omega|(simp only[go_sem]<;>omega)) _|refine Below.alloc ?_ (by first|omega|(simp only[go_sem]<;>omega)) _|refine Below.drew ?_)) ⟨_,nm,rfl,zaf _ _ _ rfl,Nat.le_refl _⟩
theorem zjD{d:Nat}(h:PT w0 F0 w B p s mb rep se)(hk:∀f w',s.hs f=none->w.heap.size<=f->PT w0 F0 w' B p (s.setH f ⟨d,0,0,false,false⟩) mb rep se->K (pt f 0) w'):Cl P Fn.aI #[pt d 0] w K:=by apply zj1;unfold zga;simp(disch:=first|omega|(simp(disch:=first|omega|fail)only[go_sem]<;>omega)|fail)only[go_sem];have b1:bk (w.alloc (CB [.int .i64 0,.int .i64 0,.bool false,.bool false,pt d 0] T.ao)) w.heap.size=some (CB [.int .i64 0,.int .i64 0,.bool false,.bool false,pt d 0] T.ao):=zaf _ _ _ rfl;exact hk _ _ (h.pf.fresh (Nat.le_refl _)).2 (Nat.le_refl _) (h.newH (by repeat (first|exact Below.refl _ _|assumption|refine zag ?_ (by first|omega|(simp only[go_sem]<;>omega)) _|refine Below.alloc ?_ (by first|omega|(simp only[go_sem]<;>omega)) _|refine Below.drew ?_)) (Nat.le_refl _) ⟨h.pf.le,b1⟩)
theorem zib{d:Nat}(h:PT w0 F0 w B p s mb rep se)(hk:∀f w',s.hs f=none->w.heap.size<=f->PT w0 F0 w' B p (s.setH f ⟨d,0,0,false,true⟩) mb rep se->K (pt f 0) w'):Cl P Fn.au #[pt d 0] w K:=by apply zf4;unfold zcD;simp(disch:=first|omega|(simp(disch:=first|omega|fail)only[go_sem]<;>omega)|fail)only[go_sem];have b1:bk (w.alloc (CB [.int .i64 0,.int .i64 0,.bool false,.bool true,pt d 0] T.ao)) w.heap.size=some (CB [.int .i64 0,.int .i64 0,.bool false,.bool true,pt d 0] T.ao):=zaf _ _ _ rfl;exact hk _ _ (h.pf.fresh (Nat.le_refl _)).2 (Nat.le_refl _) (h.newH (by repeat (first|exact Below.refl _ _|assumption|refine zag ?_ (by first|omega|(simp only[go_sem]<;>omega)) _|refine Below.alloc ?_ (by first|omega|(simp only[go_sem]<;>omega)) _|refine Below.drew ?_)) (Nat.le_refl _) ⟨h.pf.le,b1⟩)
theorem zly(h:PT w0 F0 w B p s mb rep se)(r:PM.Rel s m ps hp [] none){f x:Nat}{pos:Int}{ro:Bool}(hf:s.hs f=none)(hx:x<m.nodes.length)(h':PT w0 F0 w' B p (s.setH f ⟨pt' ps x,pos,0,false,ro⟩) mb rep se):FileR w0 F0 w' B p m hp se f ⟨x,pos,0,false,ro⟩:=by refine⟨_,mb,rep,ps,h',r.spareH _ hf,by simp[St.setH],⟨hx,rfl⟩,λk a e q=>?_⟩;obtain⟨_,_,_,q2⟩:=r.hs.at_ k a e;rw[q,hf]at q2;cases q2
theorem zfV{l:Str}(hn:SM.zbF l=true):l.length<=400:=by unfold SM.zbF at hn;rw[Bool.and_eq_true,decide_eq_true_eq]at hn;exact hn.1
theorem zml{l:Str}(h:FsT w0 F0 w B p m hp se)(hn:SM.zbF l=true)(hr:m.isDir [47]=true)(hd:m.isDir (norm l)=false)(hc:m.clear (norm l)=true)
  (hk:∀w' f,FileR w0 F0 w' B p ((m.parents (norm l) 0).add (norm l) ⟨false,268435456,[],0,[]⟩) hp se f ⟨(m.parents (norm l) 0).nodes.length,0,0,false,false⟩->K (tup [pt f 0,.nilIface]) w'):Cl P Fn.aG #[pt p 0,S l] w K:=by
 have hl:=zfV hn;have hkn:=SM.zeW hn;have h47:norm l≠[47]:=λe=>by rw[e,hr]at hd;cases hd
 have hnl:=zbH l;apply zhD;unfold zdD;rw[C.ae];refine zaR (by omega) λw1 B1=>?_;have h1:=h.old B1;rw[C.bc];generalize norm l=n at*;obtain⟨node,hnode⟩:∃node:SM.Node,node=⟨false,268435456,[],0,[]⟩:=⟨_,rfl⟩;have rest:∀(w2:World)(s:PM.St)(mb:Nat)(rep:Nat->Rep)(ps:List Nat)(d:Nat),PT w0 F0 w2 B p (s.setNd d ⟨⟨false,268435456,[],0,n⟩,none⟩) mb rep se->s.nd d=none->PM.Rel s m ps hp [] none->
   st P (zee T.ai (.map (some mb)) (S n) (pt d 0)) w2 λ_ w4=>
   st P (zah Fn.ae #[pt p 0,pt d 0,(.int .u32 0)]) w4 λt17 w5=>
   st P (zah Fn.aI #[pt d 0]) w5 λt19 w6=>K (tup [t19,.nilIface]) w6:=by
  intro w2 s mb rep ps d h2 hd0 r2;refine h2.put n d λw3 h3=>?_;have r3:=r2.push (l:=n) node hd0 (by simp);rw[hnode]at r3;rw[C.ag];refine zns (pv:=0) ⟨by omega,by omega⟩ (by decide) n.length (Nat.le_refl _) h3 r3 hkn h47 (by omega) hc hd (λq hq=>by cases hq) (λe he=>by cases he) λw4 s4 rep4 ps4 h4 r4 _ hpt=>?_;rw[C.aE];refine zjD h4 λf w5 hf lf h5=>?_;refine hk w5 f ?_;have wf:=(r2.mi.parents 0 n.length n (Nat.le_refl _) hkn h47 hc).1.wf;refine zly h4 r4 hf (by rw[SM.zi8 wf];omega) ?_;rw[hpt];exact h5
 rcases h1 with⟨s,mb,rep,ps,h1,r1⟩|h1
 ·refine zmo h1 λd w2 hd0 h2=>?_;rw[C.ab];refine zaF h2.pf ?_;exact rest w2 s mb _ ps d h2 hd0 r1
 ·apply zhP;unfold ze7;simp(disch:=first|omega|(simp(disch:=first|omega|fail)only[go_sem]<;>omega)|fail)only[go_sem];obtain⟨d,hd⟩:∃d,d=w1.heap.size:=⟨_,rfl⟩;obtain⟨w2,e2⟩:∃w2,w2=w1.alloc (CB [S n,.slice none 0 0,.map none,.bool false,.int .u32 268435456,.int .i64 0,.int .i64 0,.int .i64 0] T.ak):=⟨_,rfl⟩;have b2:bk w2 d=some (CB [S n,.slice none 0 0,.map none,.bool false,.int .u32 268435456,.int .i64 0,.int .i64 0,.int .i64 0] T.ak):=by rw[e2];exact zaf _ _ _ hd
  have B2:Below w1.heap.size w1 w2:=by rw[e2];repeat (first|exact Below.refl _ _|assumption|refine zag ?_ (by first|omega|(simp only[go_sem]<;>omega)) _|refine Below.alloc ?_ (by first|omega|(simp only[go_sem]<;>omega)) _|refine Below.drew ?_)
  have z2:w2.heap.size=w1.heap.size+1:=by rw[e2];simp only[go_sem]
  rw[<-e2,<-hd];have lp:=zaj h1.bp;have h2:FsU w0 F0 w2 B p m se:=⟨h1.hp,(zax B2 lp).trans h1.bp,h1.m0,h1.tr.after B2,h1.sn.below (B2.mono (by have:=h1.hp;omega))⟩;have t0:=h1.tr.kp.size;refine zkq (hp:=hp) h2 λw3 s mb rep ps h3 r3 k3 o3=>?_;have b3:bk w3 d=some (CB [S n,.slice none 0 0,.map none,.bool false,.int .u32 268435456,.int .i64 0,.int .i64 0,.int .i64 0] T.ak):=by rw[k3.block d (by omega) (by omega)];exact b2
  have nd:¬Own p mb s rep d:=λe=>by rcases o3 d e with q|q<;>omega
  have hd0:s.nd d=none:=by
   cases e:s.nd d with
   |none=>rfl
   |some n=>exact absurd (.inr (.inr (.inl ⟨d,n,e,.inl rfl⟩))) nd
  have:=h1.hp;have q:=rest w3 s mb _ ps d (h3.new2 (n:=⟨⟨false,268435456,[],0,n⟩,none⟩) (r:=⟨.slice none 0 0,0⟩) (by omega) nd ⟨by omega,⟨0,0,b3⟩,zfC _ _ _ _,λk hk=>(by cases hk)⟩ rfl rfl) hd0 r3;simp only[C.ag,C.aE]at q;exact q
end
section
variable{w w' w0:World}{F0:Fp}{K:Value->World->Prop}{B p mb:Nat}{s:PM.St}{rep:Nat->Rep}{se:Nat->Nat×Nat}
 {m:SM.Mem} {ps:List Nat} {hp:Int->Nat} {E:PM.Ex} {X:Option Str}
theorem zqd(b:Bool)(L:Value->Prop):pu P (oUn .not (.bool b)) L=L (.bool (!b)):=by simp(disch:=first|omega|(simp(disch:=first|omega|fail)only[go_sem]<;>omega)|fail)only[go_sem]
theorem zpV{l:Str}(h:FsT w0 F0 w B p m hp se)(hl:l.length<=100000)
  (h0:m.find (norm l)=none->∀w' x,FsI w0 F0 w' B p m hp se->PE w' w0.heap.size x [111,112,101,110] (se G.ab)->K (tup [.pointer none,x]) w')
  (h1:∀x w' s mb rep ps,m.find (norm l)=some x->PT w0 F0 w' B p s mb rep se->PM.Rel s m ps hp [] none->K (tup [pt (pt' ps x) 0,.nilIface]) w'):Cl P Fn.aN #[pt p 0,S l] w K:=by
 apply ziI;unfold zeL;rw[C.ae];refine zaR (by omega) λw1 B1=>?_;rw[C.ab];refine zcd (h.old B1) λw2 s mb rep ps h2 r2=>?_;rw[h2.pf.look,zar,zaq];have g:=r2.g (norm l);rw[show eg ([]:PM.Ex) (norm l)=none from rfl,Option.none_or]at g;cases hf:m.find (norm l)with
 |some x=>
  rw[hf]at g;simp only[Option.map_some]at g;have hk:=h1 x w2 s mb rep ps hf h2 r2;refine zaa (λt w'=>w'=w2) ?_ ?_
  ·rintro t e w3 rfl;rw[g];exact hk
  ·rw[g];simp(disch:=first|omega|(simp(disch:=first|omega|fail)only[go_sem,Option.isSome_some]<;>omega)|fail)only[go_sem,Option.isSome_some]
 |none=>
  rw[hf]at g;simp only[Option.map_none]at g;refine zaa (λ_ _=>False) (λ_ _ _ h=>h.elim) ?_;have z0:=h2.tr.kp.size;rw[g];simp only[Option.isSome_none];rw[zqd];simp only[Bool.not_false,cd_t];have hd:=h2.old (Below.refl _ w2).drew;refine zm2 (by simp[sents]) hd.sn [111,112,101,110] (norm l) λw3 x B3 hx=>?_;have hx':PE w3 w0.heap.size x [111,112,101,110] (se G.ab):=by obtain⟨pb,nm,e,q1,q2⟩:=hx;exact⟨pb,nm,e,q1,Nat.le_trans z0 q2⟩
  exact h0 hf w3 x ⟨s,mb,rep,ps,hd.old B3,r2⟩ hx'
theorem zl4{l:Str}(h:FsT w0 F0 w B p m hp se)(hl:l.length<=100000)
  (h0:m.find (norm l)=none->∀w' x,FsI w0 F0 w' B p m hp se->PE w' w0.heap.size x [111,112,101,110] (se G.ab)->K (tup [.pointer none,x]) w')
  (h1:∀x w' f,m.find (norm l)=some x->FileR w0 F0 w' B p m hp se f ⟨x,0,0,false,true⟩->K (tup [pt f 0,.nilIface]) w'):Cl P Fn.aM #[pt p 0,S l] w K:=by
 apply zi5;unfold zeM;rw[C.ay];refine zpV h hl (λhf w' x h2 hx=>?_) λx w1 s mb rep ps hf h2 r2=>?_
 ·rw[zar,zaq];refine zaa (λt w1=>w1=w') ?_ ?_
  ·rintro t e w3 rfl;exact h0 hf w3 x h2 hx
  ·rw[zn3 U.ag];simp(disch:=first|omega|(simp(disch:=first|omega|fail)only[go_sem,Option.isSome_none]<;>omega)|fail)only[go_sem,Option.isSome_none]
 ·rw[zar,zaq];refine zaa (λ_ _=>False) (λ_ _ _ h=>h.elim) ?_;rw[zn3 U.ag];simp(disch:=first|omega|(simp(disch:=first|omega|fail)only[go_sem,Option.isSome_some]<;>omega)|fail)only[go_sem,Option.isSome_some];refine zib h2 λf w2 hf0 lf h3=>?_;exact h1 x w2 f hf (zly h2 r2 hf0 (r2.lt hf) h3)
theorem zpq{l:Str}(h:FsT w0 F0 w B p m hp se)(hl:l.length<=100000)
  (h0:m.find (norm l)=none->∀w' x,FsI w0 F0 w' B p m hp se->PE w' w0.heap.size x [111,112,101,110] (se G.ab)->K (tup [.pointer none,x]) w')
  (h1:∀x w' f,m.find (norm l)=some x->FileR w0 F0 w' B p m hp se f ⟨x,0,0,false,false⟩->K (tup [pt f 0,.nilIface]) w'):Cl P Fn.aK #[pt p 0,S l] w K:=by
 apply zgc;unfold zcQ;rw[C.ay];refine zpV h hl (λhf w' x h2 hx=>?_) λx w1 s mb rep ps hf h2 r2=>?_
 ·rw[zar,zaq];refine zaa (λt w1=>w1=w') ?_ ?_
  ·rintro t e w3 rfl;exact h0 hf w3 x h2 hx
  ·rw[zn3 U.ag];simp(disch:=first|omega|(simp(disch:=first|omega|fail)only[go_sem,Option.isSome_none]<;>omega)|fail)only[go_sem,Option.isSome_none]
 ·rw[zar,zaq];refine zaa (λ_ _=>False) (λ_ _ _ h=>h.elim) ?_;rw[zn3 U.ag];simp(disch:=first|omega|(simp(disch:=first|omega|fail)only[go_sem,Option.isSome_some]<;>omega)|fail)only[go_sem,Option.isSome_some];refine zjD h2 λf w2 hf0 lf h3=>?_;exact h1 x w2 f hf (zly h2 r2 hf0 (r2.lt hf) h3)
theorem Rel.node(r:PM.Rel s m ps hp E X){q:Str}{x:Nat}(hf:m.find q=some x)(he:eg E q=none):∃k,s.g q=some (pt' ps x)/\s.nd (pt' ps x)=some ⟨m.node x,k⟩:=by obtain⟨k,q1,_⟩:=r.nd x (r.lt hf);have g:=r.g q;rw[he,Option.none_or,hf]at g;exact⟨k,g,q1⟩
theorem ze3{l:Str}{x:Nat}{md:Int}(h:PT w0 F0 w B p s mb rep se)(r:PM.Rel s m ps hp [] none)(hl:l.length<=100000)(hf:m.find (norm l)=some x)
  (hk:∀w' s' rep',PT w0 F0 w' B p s' mb rep' se->PM.Rel s' (m.setNode x {m.node x with mode:=md}) ps hp [] none->s'.hs=s.hs->K .nilIface w'):Cl P Fn.am #[pt p 0,S l,.int .u32 md] w K:=by
 apply zft;unfold zct;rw[C.ae];refine zaR (by omega) λw1 B1=>?_;have h1:=h.old B1;obtain⟨k,g,hnd⟩:=Rel.node r hf rfl;rw[C.ab];refine zaF h1.pf ?_;rw[h1.pf.look,zar,zaq,g];refine zaa (λt w'=>w'=w1) ?_ ?_
 ·rintro t e w2 rfl;rw[C.aW];refine zeR h1 hnd λw3 h3=>?_;exact hk w3 _ _ h3 (r.setNode (r.lt hf) hnd rfl rfl) rfl
 ·simp(disch:=first|omega|(simp(disch:=first|omega|fail)only[go_sem,Option.isSome_some]<;>omega)|fail)only[go_sem,Option.isSome_some]
end
theorem zi0{m:SM.Mem}{x:Nat}(hx:x<m.nodes.length):m.setNode x (m.node x)=m:=by unfold SM.Mem.setNode;rw[SM.zkS hx,List.set_getElem_self]
theorem zna{s:PM.St}{d:Nat}{n:PM.Nd}(h:s.nd d=some n):s.setNd d n=s:=by
 unfold St.setNd;have:(λk=>if k=d then some n else s.nd k)=s.nd:=by
  funext k;by_cases c:k=d
  ·rw[if_pos c,c,h]
  ·rw[if_neg c]
 rw[this]
section
variable{w w' w0:World}{F0:Fp}{K:Value->World->Prop}{B p mb:Nat}{s:PM.St}{rep:Nat->Rep}{se:Nat->Nat×Nat}
 {m:SM.Mem} {ps:List Nat} {hp:Int->Nat} {E:PM.Ex} {X:Option Str}
theorem PE.lo{w:World}{C C':Nat}{x:Value}{op:Str}{q:Nat×Nat}(h:PE w C x op q)(hC:C'<=C):PE w C' x op q:=by obtain⟨pb,nm,e,q1,q2⟩:=h;exact⟨pb,nm,e,q1,by omega⟩
theorem zm1{l:Str}{pm:Int}(h:FsT w0 F0 w B p m hp se)(hn:SM.zbF l=true)(hc:m.find (norm l)=none->m.clear (norm l)=true)
  (h0:(m.find (norm l)).isSome=true->∀w' x,FsI w0 F0 w' B p m hp se->PE w' w0.heap.size x [109,107,100,105,114] (se G.ah)->K x w')
  (h1:m.find (norm l)=none->∀w',FsI w0 F0 w' B p ((m.parents (norm l) (andI pm SM.zal)).add (norm l) ⟨true,orI 2147483648 (andI pm SM.zal),[],0,[]⟩) hp se->K .nilIface w'):Cl P Fn.aJ #[pt p 0,S l,.int .u32 (IntKind.u32.wrap pm)] w K:=by
 have hl:=zfV hn;have hkn:=SM.zeW hn;have hnl:=zbH l;apply zie;unfold zek;have ew:=znf pm (c:=13631999) (by decide);have er:=zg0 pm (c:=13631999) (by decide);have hw1:0<=IntKind.u32.wrap pm:=by rw[zjJ];omega
 have hw2:IntKind.u32.wrap pm<=4294967295:=by rw[zjJ];omega
 have eA:∀L:Value->Prop,pu P (oBin .and T.aN false true (.int .u32 (IntKind.u32.wrap pm)) (.int .u32 13631999)) L=L (.int .u32 (andI pm SM.zal)):=λL=>by rw[zls _ _ _ _ _ _ hw1 hw2 (by omega) (by omega)];exact congrArg (λz=>L (.int .u32 z)) ew
 have er:0<=andI pm SM.zal/\andI pm SM.zal<=13631999:=er;rw[eA];generalize andI pm SM.zal=pv at*;rw[C.ae];refine zaR (by omega) λw1 B1=>?_;rw[C.ab];refine zcd (h.old B1) λw2 s mb rep ps h2 r2=>?_;rw[h2.pf.look,zar,zaq];have g:=r2.g (norm l);rw[show eg ([]:PM.Ex) (norm l)=none from rfl,Option.none_or]at g;generalize norm l=n at*;have z0:=h2.tr.kp.size;rw[g];cases hf:m.find n with
 |some x=>refine zaa (λ_ _=>False) (λ_ _ _ h=>h.elim) ?_;rw[hf]at h0;simp only[Option.map_some,Option.isSome_some,cd_t];refine zfy (by simp[sents]) h2.sn [109,107,100,105,114] n λw3 x B3 hx=>?_;exact h0 rfl w3 x ⟨s,mb,rep,ps,h2.old B3,r2⟩ (hx.lo z0)
 |none=>
  have hc':=hc hf;have h47:n≠[47]:=λe=>by have:=r2.mi.root;rw[<-e,hf]at this;cases this
  have nd:m.isDir n=false:=by unfold SM.Mem.isDir;rw[hf]
  refine zaa (λt w'=>w'=w2) ?_ ?_;rotate_left
  ·simp(disch:=first|omega|(simp(disch:=first|omega|fail)only[go_sem,Option.map_none,Option.isSome_none]<;>omega)|fail)only[go_sem,Option.map_none,Option.isSome_none]
  rintro t e w3 rfl;refine zaa (λt w'=>w'=w3) ?_ ?_;rotate_left
  ·rw[C.ab];refine zaF h2.pf ?_;rw[h2.pf.look,zar,zaq,g,hf];simp(disch:=first|omega|(simp(disch:=first|omega|fail)only[go_sem,Option.map_none,Option.isSome_none]<;>omega)|fail)only[go_sem,Option.map_none,Option.isSome_none]
  rintro t e w4 rfl;rw[C.br];refine zeI h2 λd rd w5 hd0 h5=>?_;have eO:∀L:Value->Prop,pu P (oBin .or T.aN true false (.int .u32 2147483648) (.int .u32 pv)) L=L (.int .u32 (dirM pv)):=λL=>by rw[zo7 _ _ _ _ _ _ (by omega) (by omega) er.1 (by omega)];rfl
  rw[eO,C.aW];refine zeR h5 (n:=⟨⟨true,0,[],0,n⟩,some λ_=>none⟩) (by simp[St.setNd]) λw6 h6=>?_;rw[zqc]at h6;rw[C.ab];refine zaF h6.pf ?_;refine h6.put n d λw7 h7=>?_;have hpm:orI 2147483648 pv=dirM pv:=zq0 ⟨er.1,by omega⟩;have r7:=r2.push (l:=n) ⟨true,orI 2147483648 pv,[],0,[]⟩ hd0 (by simp);rw[hpm]at r7;rw[C.ag];refine zns ⟨er.1,by omega⟩ hpm n.length (Nat.le_refl _) h7 r7 hkn h47 (by omega) hc' nd (λq hq=>by cases hq) (λe he=>by cases he) λw8 s8 rep8 ps8 h8 r8 _ hpt=>?_;have wf:=(r2.mi.parents pv n.length n (Nat.le_refl _) hkn h47 hc').1.wf;obtain⟨a1,a2,a3,a4,a5,a6⟩:=SM.zeF wf n ⟨true,dirM pv,[],0,[]⟩;obtain⟨n1,n2⟩:=SM.zfw wf n ⟨true,dirM pv,[],0,[]⟩;have hfn:((m.parents n pv).add n ⟨true,dirM pv,[],0,[]⟩).find n=some (m.parents n pv).nodes.length:=by rw[a2,if_pos rfl]
  have eO2:∀L:Value->Prop,pu P (oBin .or T.aN false true (.int .u32 pv) (.int .u32 2147483648)) L=L (.int .u32 (dirM pv)):=λL=>by rw[zo7 _ _ _ _ _ _ er.1 (by omega) (by omega) (by omega)];unfold dirM;rw[Nat.or_comm];rfl
  rw[eO2,C.ak];have hnn:norm n=n:=(SM.zc8 hkn).1;refine ze3 h8 r8 (by omega) (by rw[hnn];exact hfn) λw9 s9 rep9 h9 r9 _=>?_;have es:((m.parents n pv).add n ⟨true,dirM pv,[],0,[]⟩).setNode (m.parents n pv).nodes.length {((m.parents n pv).add n ⟨true,dirM pv,[],0,[]⟩).node (m.parents n pv).nodes.length with mode:=dirM pv}=(m.parents n pv).add n ⟨true,dirM pv,[],0,[]⟩:=by have:=zi0 (m:=(m.parents n pv).add n ⟨true,dirM pv,[],0,[]⟩) (x:=(m.parents n pv).nodes.length) (by rw[a4];simp);rw[n2]at this⊢;exact this
  rw[es]at r9;rw[hpm]at h1;exact h1 hf w9 ⟨s9,mb,rep9,ps8,h9,r9⟩
end
end Go.Proofs.YtdljebgllipdjaaGreatDoor.X
end
section
namespace Go.X
open Go Go.RowKit
section
variable{P:Program}{L:Value->Prop}
theorem zsL{ti tp te:TypeId}(T:ErrT P ti tp te)(cx cy:Bool){w:World}{b o b' o':Nat}{l l':List Value}{t t':TypeId}(h1:bk w b=some (CB l t))(h2:bk w b'=some (CB l' t')):
  rd P (oBin .eql ti cx cy (.iface tp (pt b o)) (.iface tp (pt b' o'))) w L=L (.bool (decide (b=b'/\o=o'))):=by
 obtain⟨⟨ms,hi⟩,hp,hc,hs⟩:=T;cases e1:P.info? tp with
 |none=>rw[e1]at hc;cases hc
 |some i=>
 cases e2:P.info? te with
 |none=>rw[e2]at hs;cases hs
 |some j=>
 rw[e1]at hc;rw[e2]at hs;simp only[Option.map_some,Option.some.injEq,bne_iff_ne]at hc hs;refine zsF (zbd ?_);have g:(eqGuard .eql ti (fl cx) (fl cy) (.iface tp (pt b o)) (.iface tp (pt b' o'))).run P w=.ok () w:=by unfold eqGuard;rfl
 show(eqGuard .eql ti (fl cx) (fl cy) (.iface tp (pt b o)) (.iface tp (pt b' o'))>>=λ_=>binOp .eql ti (.iface tp (pt b o)) (.iface tp (pt b' o'))).run P w=_;rw[Sem.run_bind,g];show(binOp .eql ti (.iface tp (pt b o)) (.iface tp (pt b' o'))).run P w=_;by_cases q:b=b'/\o=o'
 ·obtain⟨rfl,rfl⟩:=q;rw[decide_eq_true ⟨rfl,rfl⟩];exact run_eql_iface_ptr_same w ⟨b,o,none⟩ hi hp e1 hc e2
 ·rw[decide_eq_false q];refine run_eql_iface_ptr_other w hi hp e1 hc e2 hs ?_ h1 h2;intro e;injection e with e3 e4;exact q ⟨e3,e4⟩
theorem zrw{t:TypeId}{ms:Array (String×TypeId)}{L:Value->World->Prop}(h:P.underlying t=some (.interface ms))(w:World)(u:TypeId)(v:Value):st P (oBin .eql t false false .nilIface (.iface u v)) w L=L (.bool false) w:=by
 refine zav (zbd ?_);have g:(eqGuard .eql t (fl false) (fl false) .nilIface (.iface u v)).run P w=.ok () w:=by unfold eqGuard;rfl
 show(eqGuard .eql t (fl false) (fl false) .nilIface (.iface u v)>>=λ_=>binOp .eql t .nilIface (.iface u v)).run P w=_;rw[Sem.run_bind,g];show(binOp .eql t .nilIface (.iface u v)).run P w=_;simp only[binOp];have h2:∀d:Nat,(Op.equalIn (d+1) t .nilIface (.iface u v)).run P w=.ok false w:=λd=>by simp[Op.equalIn,run_underlying h]
 simp[Op.equal,Op.maxDepth,h2 9999]
theorem zsS{t ta te:TypeId}(h:P.underlying ta=some (.pointer te))(v:Value):pu P (zgS (.iface ta v) t ta false) L=L v:=zca (by simp[Instr.typeAssert,zau,zak h,tup])
end
end Go.X
end
section
namespace Go.Proofs.YtdljebgllipdjaaGreatDoor.X
open Go Go.X Go.Proofs Go.RowKit Go.X.PM Go.Lib
section
variable{w w' w0:World}{F0:Fp}{K:Value->World->Prop}{B p mb:Nat}{s:PM.St}{rep:Nat->Rep}{se:Nat->Nat×Nat}
 {m:SM.Mem} {ps:List Nat} {hp:Int->Nat} {E:PM.Ex} {X:Option Str}
theorem FsI.old(h:FsI w0 F0 w B p m hp se)(k:Below w.heap.size w w'):FsI w0 F0 w' B p m hp se:=by obtain⟨s,mb,rep,ps,h1,h2⟩:=h;exact⟨s,mb,rep,ps,h1.old k,h2⟩
theorem FsI.sn(h:FsI w0 F0 w B p m hp se):Sn w B se:=by obtain⟨s,mb,rep,ps,h1,h2⟩:=h;exact h1.sn
theorem rdEqlSn{g g':Nat}(h:Sn w B se)(hg:g∈sents)(hg':g'∈sents)(L:Value->Prop):rd P (oBin .eql T.aB false false (er (se g)) (er (se g'))) w L=L (.bool (decide (g=g'))):=by obtain⟨_,l,t,e⟩:=h.cell g hg;obtain⟨_,l',t',e'⟩:=h.cell g' hg';rw[zsL errT false false e e'];congr 2;refine decide_eq_decide.2 ⟨λq=>h.inj g hg g' hg' (Prod.ext q.1 q.2),λq=>by subst q;exact⟨rfl,rfl⟩⟩
theorem znC{l:Str}{pm:Int}(h:FsT w0 F0 w B p m hp se)(hn:SM.zbF l=true)(hc:m.find (norm l)=none->m.clear (norm l)=true)
  (h0:(m.find (norm l)).isSome=true->∀w',FsI w0 F0 w' B p m hp se->K .nilIface w')
  (h1:m.find (norm l)=none->∀w',FsI w0 F0 w' B p ((m.parents (norm l) (andI pm SM.zal)).add (norm l) ⟨true,orI 2147483648 (andI pm SM.zal),[],0,[]⟩) hp se->K .nilIface w'):Cl P Fn.aQ #[pt p 0,S l,.int .u32 (IntKind.u32.wrap pm)] w K:=by
 apply zgX;unfold zc7;rw[C.aP];refine zm1 h hn hc (λhf w1 x h2 hx=>?_) λhf w1 h2=>?_
 ·refine zaa (λ_ _=>False) (λ_ _ _ h=>h.elim) ?_;obtain⟨pb,nm,rfl,hp,hC⟩:=hx;rw[zje Tryz.underlying116,cd_t];refine zaa (λ_ _=>False) (λ_ _ _ h=>h.elim) ?_;rw[zsS U.ak];have hd:FsI w0 F0 w1.drew B p m _ se:=h2.old (Below.refl _ w1).drew;obtain⟨q,t,e1⟩:=hd.sn.at_ G.ah (by simp[sents]);have hp':bk w1.drew pb=some (CB [S [109,107,100,105,114],S nm,er (se G.ah)] T.au):=hp;have eq1:=λL=>rdEqlSn hd.sn (g:=G.ah) (g':=G.ah) (by simp[sents]) (by simp[sents]) L;generalize w1.drew=w2 at*;simp(disch:=first|omega|(simp(disch:=first|omega|fail)only[go_sem,hp',e1,eq1,decide_true]<;>omega)|fail)only[go_sem,hp',e1,eq1,decide_true];exact h0 hf w2 hd
 ·refine zaa (λt w'=>w'=w1) ?_ ?_
  ·rintro t e w3 rfl;exact h1 hf _ h2
  ·rw[zdc Tryz.underlying116];simp(disch:=first|omega|(simp(disch:=first|omega|fail)only[go_sem]<;>omega)|fail)only[go_sem]
theorem ziC{d:Nat}{n:PM.Nd}(h:PT w0 F0 w B p s mb rep se)(hd:s.nd d=some n)(hm:0<=n.n.mode/\n.n.mode<=4294967295)(hl:n.n.name.length<=140737488355328)
  (hk:∀fi w',PT w0 F0 w' B p s mb rep se->Below w.heap.size w w'->w.heap.size<=fi->fi<w'.heap.size->InfoAt w' fi ⟨SM.base n.n.name,if n.n.dir=true then 42 else(n.n.data.length:Int),n.n.mode,n.n.dir,n.n.time⟩->K (pt fi 0) w'):Cl P Fn.aY #[pt d 0] w K:=by
 apply zkO;unfold zho;obtain⟨u,g,hb⟩:=(h.pf.node d n hd).bd;obtain⟨a,c,ev⟩:=zan (h.pf.node d n hd).own;simp(disch:=first|omega|(simp(disch:=first|omega|fail)only[go_sem]<;>omega)|fail)only[go_sem];have b1:bk (w.alloc (CB [pt d 0] T.aF)) w.heap.size=some (CB [pt d 0] T.aF):=zaf _ _ _ rfl;have B1:Below w.heap.size w (w.alloc (CB [pt d 0] T.aF)):=by repeat (first|exact Below.refl _ _|assumption|refine zag ?_ (by first|omega|(simp only[go_sem]<;>omega)) _|refine Below.alloc ?_ (by first|omega|(simp only[go_sem]<;>omega)) _|refine Below.drew ?_)
 have hb':=(zax B1 (zaj hb)).trans hb;refine hk _ _ (h.old B1) B1 (Nat.le_refl _) (by simp only[go_sem];omega) ⟨d,n.n.name,a,n.n.data.length,c,mdV n.kids (rep d).kb,n.n.dir,n.n.mode,n.n.time,u,g,b1,?_,hm.1,hm.2,hl,rfl⟩;rw[<-ev];exact hb'
theorem zm6{fi:Nat}{i:SM.Info}(h:InfoAt w fi i)(hk:K (.int .u32 i.mode) w):Cl P Fn.aq #[pt fi 0] w K:=by obtain⟨d,nm,a,n,c,md,dir,mode,mt,uid,gid,h1,h2,h3,h4,h5,rfl⟩:=h;apply zfG;unfold zdi;simp(disch:=first|omega|(simp(disch:=first|omega|fail)only[go_sem,h1,h2]<;>omega)|fail)only[go_sem,h1,h2];exact hk
theorem zqz{l:Str}{pm:Int}(h:FsT w0 F0 w B p m hp se)(hl:l.length<=100000)(hmd:∀x,x<m.nodes.length->0<=(m.node x).mode/\(m.node x).mode<=4294967295)
  (h0:m.find l=none->∀w' x,FsI w0 F0 w' B p m hp se->PE w' w0.heap.size x [99,104,109,111,100] (se G.ab)->K x w')
  (h1:∀x w',m.find l=some x->FsI w0 F0 w' B p (m.setNode x {m.node x with mode:=orI (zcq (m.node x).mode SM.zal) (andI pm SM.zal)}) hp se->K .nilIface w'):Cl P Fn.bo #[pt p 0,S l,.int .u32 (IntKind.u32.wrap pm)] w K:=by
 apply zig;unfold zef;have ew:=znf pm (c:=13631999) (by decide);have er:=zg0 pm (c:=13631999) (by decide);have hw1:0<=IntKind.u32.wrap pm:=by rw[zjJ];omega
 have hw2:IntKind.u32.wrap pm<=4294967295:=by rw[zjJ];omega
 have eA:∀L:Value->Prop,pu P (oBin .and T.aN false true (.int .u32 (IntKind.u32.wrap pm)) (.int .u32 13631999)) L=L (.int .u32 (andI pm SM.zal)):=λL=>by rw[zls _ _ _ _ _ _ hw1 hw2 (by omega) (by omega)];exact congrArg (λz=>L (.int .u32 z)) ew
 have er:0<=andI pm SM.zal/\andI pm SM.zal<=13631999:=er;rw[eA];generalize andI pm SM.zal=pv at*;rw[C.ab];refine zcd h λw2 s mb rep ps h2 r2=>?_;rw[h2.pf.look,zar,zaq];have g:=r2.g l;rw[show eg ([]:PM.Ex) l=none from rfl,Option.none_or]at g;have z0:=h2.tr.kp.size;rw[g];cases hf:m.find l with
 |none=>refine zaa (λ_ _=>False) (λ_ _ _ h=>h.elim) ?_;simp only[Option.map_none,Option.isSome_none];rw[zqd];simp only[Bool.not_false,cd_t];refine zfy (by simp[sents]) h2.sn [99,104,109,111,100] l λw3 x B3 hx=>?_;exact h0 hf w3 x ⟨s,mb,rep,ps,h2.old B3,r2⟩ (hx.lo z0)
 |some x=>
  obtain⟨k,_,hnd⟩:=Rel.node r2 hf rfl;have hkl:=r2.mi.kp _ _ hf;have hnm:=r2.mi.nm _ _ hf;obtain⟨m1,m2⟩:=hmd x (r2.lt hf);refine zaa (λt w'=>w'=w2) ?_ ?_;rotate_left
  ·simp(disch:=first|omega|(simp(disch:=first|omega|fail)only[go_sem,Option.map_some,Option.isSome_some]<;>omega)|fail)only[go_sem,Option.map_some,Option.isSome_some]
  rintro t e w3 rfl;simp only[Option.map_some];rw[C.aX];refine ziC h2 hnd ⟨m1,m2⟩ (by show(m.node x).name.length<=_;rw[hnm];omega) λfi w4 h4 B4 _ _ hi=>?_;rw[C.aV];refine zm6 hi ?_;show pu P (oBin .and T.aN false true (.int .u32 (m.node x).mode) (.int .u32 4281335296)) _;rw[zls _ _ _ _ _ _ m1 (by omega) (by omega) (by omega)];have ha:(m.node x).mode.toNat&&&(4281335296:Int).toNat<=(4281335296:Int).toNat:=Nat.and_le_right;have ha2:(4281335296:Int).toNat=4281335296:=rfl;rw[zo7 _ _ _ _ _ _ (by omega) (by omega) er.1 (by omega)];have ec:=zn0 ⟨m1,m2⟩ er;rw[C.ak];have ec':(((((m.node x).mode.toNat&&&(4281335296:Int).toNat:Nat):Int).toNat|||pv.toNat:Nat):Int)=orI (zcq (m.node x).mode SM.zal) pv:=ec;rw[ec'];refine ze3 h4 r2 hl (by rw[(SM.zc8 hkl).1];exact hf) λw5 s5 rep5 h5 r5 _=>?_;exact h1 x w5 hf ⟨s5,mb,rep5,ps,h5,r5⟩
theorem zqA{l:Str}{u g:Int}(h:FsT w0 F0 w B p m hp se)(hl:l.length<=100000)
  (h0:m.find (norm l)=none->∀w' x,FsI w0 F0 w' B p m hp se->PE w' w0.heap.size x [99,104,111,119,110] (se G.ab)->K x w')
  (h1:∀x w',m.find (norm l)=some x->FsI w0 F0 w' B p m hp se->K .nilIface w'):Cl P Fn.bw #[pt p 0,S l,.int .i64 u,.int .i64 g] w K:=by
 apply zif;unfold zeg;rw[C.ae];refine zaR (by omega) λw1 B1=>?_;rw[C.ab];refine zcd (h.old B1) λw2 s mb rep ps h2 r2=>?_;rw[h2.pf.look,zar,zaq];generalize norm l=n at*;have gg:=r2.g n;rw[show eg ([]:PM.Ex) n=none from rfl,Option.none_or]at gg;have z0:=h2.tr.kp.size;rw[gg];cases hf:m.find n with
 |none=>refine zaa (λ_ _=>False) (λ_ _ _ h=>h.elim) ?_;simp only[Option.map_none,Option.isSome_none];rw[zqd];simp only[Bool.not_false,cd_t];refine zfy (by simp[sents]) h2.sn [99,104,111,119,110] n λw3 x B3 hx=>?_;exact h0 hf w3 x ⟨s,mb,rep,ps,h2.old B3,r2⟩ (hx.lo z0)
 |some x=>
  obtain⟨k,_,hnd⟩:=Rel.node r2 hf rfl;refine zaa (λt w'=>w'=w2) ?_ ?_;rotate_left
  ·simp(disch:=first|omega|(simp(disch:=first|omega|fail)only[go_sem,Option.map_some,Option.isSome_some]<;>omega)|fail)only[go_sem,Option.map_some,Option.isSome_some]
  rintro t e w3 rfl;simp only[Option.map_some];rw[C.ck];apply zoL;unfold zkY;obtain⟨u0,g0,hb⟩:=(h2.pf.node _ _ hnd).bd;have one:=qC_one h2.pf hnd;have one2:=zsl k (rep (pt' ps x)).kb;simp(disch:=first|omega|(simp(disch:=first|omega|fail)only[go_sem,hb,optP]<;>omega)|fail)only[go_sem,hb,optP];have h3:=h2.nodeSet (n':=⟨m.node x,k⟩) (u:=u) (g:=g0) hnd rfl rfl;rw[zna hnd]at h3;apply zoE;unfold zk5;obtain⟨w4,e4⟩:∃w4,w4=setb w3 (pt' ps x) (CB (qC ⟨m.node x,k⟩ (rep (pt' ps x)) u g0) T.ak):=⟨_,rfl⟩;have hb4:bk w4 (pt' ps x)=some (CB (qC ⟨m.node x,k⟩ (rep (pt' ps x)) u g0) T.ak):=by rw[e4];exact zap _ _ _ _ rfl (zaj hb)
  rw[<-e4]at h3;simp only[qC]at hb4 e4;rw[<-e4];simp(disch:=first|omega|(simp(disch:=first|omega|fail)only[go_sem,hb4]<;>omega)|fail)only[go_sem,hb4];have h5:=h3.nodeSet (n':=⟨m.node x,k⟩) (u:=u) (g:=g) hnd rfl rfl;rw[zna hnd]at h5;exact h1 x _ hf ⟨s,mb,rep,ps,h5,r2⟩
theorem zox{l:Str}{a mt:Int}(h:FsT w0 F0 w B p m hp se)(hl:l.length<=100000)
  (h0:m.find (norm l)=none->∀w' x,FsI w0 F0 w' B p m hp se->PE w' w0.heap.size x [99,104,116,105,109,101,115] (se G.ab)->K x w')
  (h1:∀x w',m.find (norm l)=some x->FsI w0 F0 w' B p (m.setNode x {m.node x with time:=mt}) hp se->K .nilIface w'):Cl P Fn.aW #[pt p 0,S l,.int .i64 a,.int .i64 mt] w K:=by
 apply zhe;unfold zdl;rw[C.ae];refine zaR (by omega) λw1 B1=>?_;rw[C.ab];refine zcd (h.old B1) λw2 s mb rep ps h2 r2=>?_;rw[h2.pf.look,zar,zaq];generalize norm l=n at*;have gg:=r2.g n;rw[show eg ([]:PM.Ex) n=none from rfl,Option.none_or]at gg;have z0:=h2.tr.kp.size;rw[gg];cases hf:m.find n with
 |none=>refine zaa (λ_ _=>False) (λ_ _ _ h=>h.elim) ?_;simp only[Option.map_none,Option.isSome_none];rw[zqd];simp only[Bool.not_false,cd_t];refine zfy (by simp[sents]) h2.sn [99,104,116,105,109,101,115] n λw3 x B3 hx=>?_;exact h0 hf w3 x ⟨s,mb,rep,ps,h2.old B3,r2⟩ (hx.lo z0)
 |some x=>
  obtain⟨k,_,hnd⟩:=Rel.node r2 hf rfl;refine zaa (λt w'=>w'=w2) ?_ ?_;rotate_left
  ·simp(disch:=first|omega|(simp(disch:=first|omega|fail)only[go_sem,Option.map_some,Option.isSome_some]<;>omega)|fail)only[go_sem,Option.map_some,Option.isSome_some]
  rintro t e w3 rfl;simp only[Option.map_some];rw[C.bi];apply zlh;unfold zhY;rw[C.aY];apply zdb;unfold zcm;obtain⟨u0,g0,hb⟩:=(h2.pf.node _ _ hnd).bd;simp(disch:=first|omega|(simp(disch:=first|omega|fail)only[go_sem,hb,optP]<;>omega)|fail)only[go_sem,hb,optP];have h3:=h2.nodeSet (n':=⟨{m.node x with time:=mt},k⟩) (u:=u0) (g:=g0) hnd rfl rfl;exact h1 x _ hf ⟨_,mb,rep,ps,h3,r2.setNode (r2.lt hf) hnd rfl rfl⟩
theorem zrI{l:Str}(h:FsT w0 F0 w B p m hp se)(hl:l.length<=100000)(hmd:∀x,x<m.nodes.length->0<=(m.node x).mode/\(m.node x).mode<=4294967295)(hnl:∀x,x<m.nodes.length->(m.node x).name.length<=140737488355328)
  (h0:m.find (norm l)=none->∀w' x,FsI w0 F0 w' B p m hp se->PE w' w0.heap.size x [111,112,101,110] (se G.ab)->K (tup [.pointer none,x]) w')
  (h1:∀x fi w',m.find (norm l)=some x->FsI w0 F0 w' B p m hp se->w0.heap.size<=fi->fi<w'.heap.size->InfoAt w' fi (m.info x)->K (tup [pt fi 0,.nilIface]) w'):Cl P Fn.bJ #[pt p 0,S l] w K:=by
 apply ziA;unfold zeN;rw[C.aQ];refine zl4 h hl (λhf w1 x h2 hx=>?_) λx w1 f hf h2=>?_
 ·obtain⟨pb,nm,e,q1,q2⟩:=hx;subst e;rw[zar,zaq];refine zaa (λ_ _=>False) (λ_ _ _ h=>h.elim) ?_;rw[zje Tryz.underlying116,cd_t];exact h0 hf w1 _ h2 ⟨pb,nm,rfl,q1,q2⟩
 ·obtain⟨s,mb,rep,ps,h3,r3,q1,q2,q3⟩:=h2;rw[zar,zaq];refine zaa (λt w'=>w'=w1) ?_ ?_
  ·rintro t e w2 rfl;obtain⟨hB,hb⟩:=h3.pf.hand _ _ q1;obtain⟨k,_,hnd⟩:=Rel.node r3 hf rfl;have z0:=h3.tr.kp.size;simp(disch:=first|omega|(simp(disch:=first|omega|fail)only[go_sem,hb]<;>omega)|fail)only[go_sem,hb];apply ziq;unfold zfN;simp(disch:=first|omega|(simp(disch:=first|omega|fail)only[go_sem]<;>omega)|fail)only[go_sem];have B3:Below w2.heap.size w2 (w2.alloc (CB (handC ⟨pt' ps x,0,0,false,true⟩) T.ao)):=by repeat (first|exact Below.refl _ _|assumption|refine zag ?_ (by first|omega|(simp only[go_sem]<;>omega)) _|refine Below.alloc ?_ (by first|omega|(simp only[go_sem]<;>omega)) _|refine Below.drew ?_)
   have h4:=h3.old B3;refine ziC h4 hnd (hmd x (r3.lt hf)) (hnl x (r3.lt hf)) λfi w5 h5 B5 l5 l6 hi=>?_;refine h1 x fi w5 hf ⟨s,mb,rep,ps,h5,r3⟩ (Nat.le_trans z0 (Nat.le_trans B3.size l5)) l6 hi
  ·rw[zdc Tryz.underlying116];simp(disch:=first|omega|(simp(disch:=first|omega|fail)only[go_sem]<;>omega)|fail)only[go_sem]
end
end Go.Proofs.YtdljebgllipdjaaGreatDoor.X
end
section
namespace Go.X
theorem zfs{α:Type}{lt:α->α->Prop}(irr:∀a,¬lt a a)(tr:∀a b c,lt a b->lt b c->lt a c):∀(xs ys:List α),xs.Pairwise lt->ys.Pairwise lt->(∀a,a∈xs↔a∈ys)->xs=ys
 |[],[],_,_,_=>rfl
 |[],y::ys,_,_,h=>absurd ((h y).2 (List.mem_cons_self ..)) (by simp)
 |x::xs,[],_,_,h=>absurd ((h x).1 (List.mem_cons_self ..)) (by simp)
 |x::xs,y::ys,hx,hy,h=>by
  have hx':=List.pairwise_cons.1 hx;have hy':=List.pairwise_cons.1 hy;have e:x=y:=by
   rcases List.mem_cons.1 ((h x).1 (List.mem_cons_self ..))with q|q
   ·exact q
   ·rcases List.mem_cons.1 ((h y).2 (List.mem_cons_self ..))with r|r
    ·exact r.symm
    ·exact absurd (tr _ _ _ (hy'.1 x q) (hx'.1 y r)) (irr y)
  subst e;congr 1;refine zfs irr tr xs ys hx'.2 hy'.2 λa=>⟨λq=>?_,λq=>?_⟩
  ·rcases List.mem_cons.1 ((h a).1 (List.mem_cons_of_mem _ q))with r|r
   ·subst r;exact absurd (hx'.1 _ q) (irr _)
   ·exact r
  ·rcases List.mem_cons.1 ((h a).2 (List.mem_cons_of_mem _ q))with r|r
   ·subst r;exact absurd (hy'.1 _ q) (irr _)
   ·exact r
end Go.X
end
section
namespace Go.X
abbrev LE8(a b:List UInt8):Prop:=¬b<a
structure Mid(p:List (List UInt8))(x:List UInt8)(m:List (List UInt8)):Prop where
 srt:(p++m).Pairwise LE8
 low:∀y∈m,LE8 x y
theorem Mid.start{p:List (List UInt8)}(h:p.Pairwise LE8)(x:List UInt8):Mid p x []:=⟨by simpa using h,λy hy=>by cases hy⟩
theorem Mid.step{p:List (List UInt8)}{a x:List UInt8}{m:List (List UInt8)}(h:Mid (p++[a]) x m)(hx:x<a):Mid p x (a::m):=
 ⟨by have:=h.srt;simpa using this,λy hy=>by
  rcases List.mem_cons.1 hy with q|q
  ·subst q;exactλh=>absurd (List.lt_trans h hx) (List.lt_irrefl _)
  ·exact h.low y q⟩
theorem Mid.done0{x:List UInt8}{m:List (List UInt8)}(h:Mid [] x m):(x::m).Pairwise LE8:=List.pairwise_cons.2 ⟨h.low,by have:=h.srt;simpa using this⟩
theorem Mid.done{p:List (List UInt8)}{a x:List UInt8}{m:List (List UInt8)}(h:Mid (p++[a]) x m)(hx:¬x<a):(p++[a]++x::m).Pairwise LE8:=by
 have s:=List.pairwise_append.1 h.srt;refine List.pairwise_append.2 ⟨s.1,List.pairwise_cons.2 ⟨h.low,s.2.1⟩,λy hy z hz=>?_⟩;rcases List.mem_cons.1 hz with q|q
 ·subst q;rcases List.mem_append.1 hy with r|r
  ·have ya:=(List.pairwise_append.1 s.1).2.2 y r a (by simp);intro hzy;exact hx (by
    rcases Decidable.em (y<a)with t|t
    ·exact List.lt_trans hzy t
    ·have:y=a:=List.le_antisymm (List.not_lt.1 ya) (List.not_lt.1 t);rw[<-this];exact hzy)
  ·simp at r;subst r;exact hx
 ·exact s.2.2 y hy z q
end Go.X
end
