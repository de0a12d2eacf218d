/- The scanner of the program told as plain functions, part 19: texts joined and shortened by a program (wip/tools/mini.py). -/
import Derived.Test.YtogkcphobhhbdaaGreatDoorYc18
set_option linter.unusedVariables false
set_option linter.unusedSimpArgs false
set_option maxHeartbeats 32000000
namespace Go.Proofs.YtogkcphobhhbdaaGreatDoor
open Go Go.RowKit Go.Lib
namespace Sc
open Ev
set_option maxRecDepth 100000
noncomputable section
theorem acL{O:U}{st:St}(h:st.mode=0):bp O st=fZ O st:=by
 unfold bp
 rw[h,if_neg (by decide),if_pos (.inl (by decide))]
theorem acM{O:U}{st:St}(h:st.mode=1):bp O st=vP O st:=by
 unfold bp
 rw[h,if_pos (by decide)]
theorem acN{O:U}{st:St}(h:st.mode=1):aJ O st=qD O st:=by
 unfold aJ
 rw[h,if_pos (by decide)]
theorem Bd.sw2{O:U}{m:Int}{x:LS}{st:St}(h:Bd O m x st){r:Int}{w:Nat}(hc:bA O x.p r w)(hs:aI x.ends r=false)(h1:cj r=false)(h2:r<128):
 ∃N,Nx O m x st N∧N.ch=r∧(iY O x.ends {st with au:=false}).get Sc.iN=(jM O x.ends N).get Sc.iN:=by
 obtain⟨⟨p,cs,g1,g2,g3,g4⟩,ht⟩:=h.at_ (.inl ⟨_,_,hc⟩)
 obtain⟨N,hn,e⟩:=kL (nl:=x.ends) (g2.same (b:={st with au:=false}) rfl rfl rfl rfl) g1 g3 g4 (.inl ⟨_,_,hc⟩) (fun r' w' rQ=>by rw[(rQ.uniq hc).1];exact hs)
 have kE:=(hn.gQ.of hc).1
 exact⟨N,.of h hn ht,kE,by rw[e,Bs (by rw[kE];exact h1) (by rw[kE];exact h2)]⟩
theorem Bd.fP{O:U}{m:Int}{x:LS}{st s:St}(h:Bd O m x st)(hr:(iY O x.ends {st with au:=false}).get Sc.iN= .fP s):
 Iv O {s with au:=x.ends}∧s.mode=m∧(NoD O->Lc O s)∧aK O st=aK O {s with au:=x.ends}:=by
 have h1:=dI (d:=Sc.iN) (jA (nl:=x.ends) h.pos h.iv.sz)
 rw[hr]at h1
 obtain⟨h1,h2,h3,h4⟩:=h1
 have h5:=dI (d:=Sc.iN) (Bh (nl:=x.ends) h.pos h.iv.sz (h.iv.op.of rfl))
 rw[hr]at h5
 have k0:Kp {st with au:=false}:=h.iv.kp.same rfl rfl rfl rfl
 refine⟨⟨h.iv.sz,.inl (h1.same rfl rfl rfl),(h2.kp h.iv.sz k0).1.same rfl rfl rfl rfl,C7.of h5 rfl⟩,h2.mode.trans h.mode,fun hd=>h2.ind h.iv.sz k0 _ (DE h.iv.sz hd) ((h.lc hd).same rfl rfl rfl rfl rfl),?_⟩
 rw[cR,h.nl,dB h.pos h.iv.sz,hr]
 exact vY (nl:=x.ends) h4
theorem bO.zD{O:U}{m:Int}{x y:LS}{st s:St}(h:Bd O m x st){n:Nat}(ih:∀x st,Bd O m x st->O.size+1<=x.p+n->bO O m x st (fD O n x))(hn:O.size<=x.p+n)(hr:(iY O x.ends {st with au:=false}).get Sc.iN= .fP s)
 {cs:List Int}(ie:Cl O x.p cs y.p)(hp:x.p<y.p)(y0:y.ai=0)(y1:y.out=x.out)(y2:y.fst=x.fst)(y3:y.ends=x.ends)(y4:y.line=1+gE O y.p)(y5:y.st=kC O y.p)(bn:iP O y.p->Std O y.p s∧O1 O m s y.rem):bO O m x st (fD O n y):=by
 obtain⟨i1,i2,i3,i4⟩:=h.fP hr
 refine bO.ext (x':=y) (.eq i4) y1 (fun hg=>hg.on ie) (ih _ _ ⟨i1,i2,by rw[y3],ie.le2 h.le,fun e=>by omega,y0,by rw[y1,y2];exact h.fst,y4,y5,fun hd=>(i3 hd).same rfl rfl rfl rfl rfl,fun hc=> ?_⟩ (by omega))
 obtain⟨a,b⟩:=bn hc
 exact⟨.gQ (a.same rfl rfl rfl rfl),b.eq rfl⟩
theorem acO{O:U}{p q:Nat}{cs:List Int}(h:Cl O p cs q):∀c∈cs,0<=c:=by
 induction h with
 |nil=>exact fun c hc=>absurd hc List.not_mem_nil
 |cons h1 h2 ih=>
  intro c hc
  rcases List.mem_cons.1 hc with rfl|hc
  ·have:=h1.w;omega
  ·exact ih c hc
theorem B1{O:U}:∀(n:Nat) (X:LS),X.ai=0->X.p<=O.size->(X.p=0->(Utf8.decode O 0).1≠65279)->O.size<=X.p+n->
 (∃cs e,Cl O X.p cs e∧(∀c∈cs,c≠10)∧(e=O.size∨bA O e 10 1)∧dh O n X={X with p:=e})∨((dh O n X).ai=1∧(dh O n X).out=X.out∧¬rT O X.p)
 |0,X,h0,h1,h2,h3=> .inl ⟨[],X.p,.nil,fun c hc=>absurd hc List.not_mem_nil,.inl (by omega),rfl⟩
 |n+1,X,h0,h1,h2,h3=>by
  rw[dh]
  by_cases bz:X.p<O.size
  ·by_cases gI:(O.get! X.p).toNat=10
   ·rw[if_neg (fun hh=>hh.2.2 gI)]
    have hc:=cM bz (by omega) (by omega)
    rw[gI]at hc
    exact .inl ⟨[],X.p,.nil,fun c hc=>absurd hc List.not_mem_nil,.inr hc,rfl⟩
   ·rw[if_pos ⟨h0,bz,gI⟩]
    by_cases hb:ca O X.p=true
    ·have e:cB O X.p X={X with ai:=1}:=by unfold cB;rw[if_pos hb]
     rw[e]
     have e2:∀(k:Nat) (Y:LS),Y.ai=1->dh O k Y=Y:=fun k Y hY=>by
      cases k with
      |zero=>rfl
      |succ k=>rw[dh,if_neg (fun hh=>by rw[hY]at hh;exact absurd hh.1 (by decide))]
     rw[e2 n _ rfl]
     exact .inr ⟨rfl,rfl,An.lH bz hb⟩
    ·have e:cB O X.p X=X:=by unfold cB;rw[if_neg hb]
     rw[e]
     have hc:=kD bz (by simpa using hb) h2
     have hw:=hc.w
     have hr:ba O X.p≠10:=fun hh=>gI (by have:=(hc.byte (by omega)).1;omega)
     rcases B1 n {X with p:=X.p+aN O X.p} h0 (by show X.p+aN O X.p<=O.size;omega) (fun e=>by have e:X.p+aN O X.p=0:=e;omega) (by show O.size<=X.p+aN O X.p+n;omega)with⟨cs,e,i1,i2,i3,i4⟩|⟨i1,i2,i3⟩
     ·refine .inl ⟨_,e,.cons hc i1,fun c wi=> ?_,i3,i4⟩
      rcases List.mem_cons.1 wi with rfl|wi
      ·exact hr
      ·exact i2 c wi
     ·exact .inr ⟨i1,i2,fun hg=>i3 (hg.step hc)⟩
  ·rw[if_neg (fun hh=>bz hh.2.1)]
   exact .inl ⟨[],X.p,.nil,fun c hc=>absurd hc List.not_mem_nil,.inl (by omega),rfl⟩
def T9(O:U)(x y:LS):LS:={y with rem:=y.rem++[⟨O.extract x.p y.p,x.line,(x.p:Int)-x.st+1⟩]}
theorem xn{O:U}{m:Int}{x:LS}{st N s:St}(g:Nx O m x st N){t:U}(h0:m=0->s.ab=N.ab)(h1:m=1->s.ab=N.ab++[⟨N.line,N.aM,t⟩]):O1 O m s (x.rem++[⟨t,x.line,(x.p:Int)-x.st+1⟩]):=by
 refine⟨fun hm=>by rw[h0 hm,g.here.ab];exact g.nts.1 hm,fun hm hd=> ?_⟩
 obtain⟨a,b,_⟩:=g.pl hd
 have e:N.ab=x.rem.map afP:=g.here.ab.trans (g.nts.2 hm hd)
 rw[h1 hm,e,a,b,List.map_append]
 rfl
theorem bO.YD{O:U}{m:Int}{x:LS}{st:St}(hm:m=0∨m=1)(h:Bd O m x st){n:Nat}(ih:∀x st,Bd O m x st->O.size+1<=x.p+n->bO O m x st (fD O n x))(hn:O.size<=x.p+n)(hs:Sub O x.p N1):
 uZ O m x st n (T9 O x (dh O O.size x)):=by
 have hle:=hs.le
 have eJ:N1.size=2:=rfl
 have c0:bA O x.p 47 1:=by have:=ez hs 0 (by decide) (by decide) (by decide);exact this
 have c1:bA O (x.p+1) 47 1:=by have:=ez hs 1 (by decide) (by decide) (by decide);exact this
 rcases B1 O.size x h.clean h.le h.b0 (by omega)with⟨cs,e,i1,i2,i3,i4⟩|⟨i1,i2,i3⟩
 ·rw[i4]
  refine .inl ⟨h.clean,?_⟩
  have he:∀w r,bA O e r w->r=10:=fun w r hc=>by
   rcases i3 with i3|i3
   ·have:=hc.lt;omega
   ·exact(hc.uniq i3).1
  have afY:iP O e:=by
   rcases i3 with i3|i3
   ·exact .inr i3
   ·exact .inl ⟨_,_,i3⟩
  obtain⟨ds,d1,d2⟩:∃ds,Cl O (x.p+1+1) ds e∧∀c∈ds,c≠10:=by
   cases i1 with
   |nil=>have:=he _ _ c0;omega
   |@cons _ w1 _ r1 t k1 k2=>
    obtain⟨e1,e2⟩:=k1.uniq c0
    subst e1 e2
    cases k2 with
    |nil=>have:=he _ _ c1;omega
    |@cons _ w2 _ r2 t2 k3 k4=>
     obtain⟨e3,e4⟩:=k3.uniq c1
     subst e3 e4
     exact⟨_,k4,fun c hc=>i2 c (by simp[hc])⟩
  have hd:=d1.le
  have GP:=i1.nl i2
  obtain⟨N,g,kE,qY⟩:=h.sw2 c0 (by cases x.ends<;>rfl) (by decide) (by decide)
  obtain⟨_,s1,s2⟩:=dZ g.here.gQ c0 (.inl ⟨_,_,c1⟩)
  obtain⟨e1,s3,s4⟩:=dZ s1 c1 (d1.jq afY)
  have s5:=s2.trans s4
  have e0:(jM O x.ends N).get Sc.iN= .fP (bp O (aa O (aa O N))):=by
   unfold jM
   simp[af.get,kE,fi,e1]
  rw[e0]at qY
  have qH:(aa O (aa O N)).mode=m:=by rw[s5.bm];exact g.here.mode.trans h.mode
  have sk:∀{S:St},Std O (x.p+1+1) S->Std O e (skip O cm S)∧jC O S (skip O cm S):=fun hS=>
   tz IZ d1 (fun c hc=>by
    have:=d2 c hc
    have sC:=acO d1 c hc
    unfold cm;simp;omega) afY (fun r w hc=>by rw[he w r hc];rfl) hS
  refine bO.zD (s:=bp O (aa O (aa O N))) h ih hn qY i1 (show x.p<e by omega) h.clean rfl rfl rfl (by show x.line=1+gE O e;rw[GP.1];exact h.line) (by show x.st=kC O e;rw[GP.2];exact h.bol) (fun _=> ?_)
  rcases hm with rfl|rfl
  ·rw[acL qH]
   obtain⟨k1,k2⟩:=sk (s3.same (b:=stop (aa O (aa O N))) rfl rfl rfl rfl)
   exact⟨k1,xn g (fun _=>k2.ab.trans s5.ab) (fun e=>by cases e)⟩
  ·rw[acM qH]
   obtain⟨k1,k2⟩:=sk s3
   have k3:=s5.trans k2
   refine⟨k1.same rfl rfl rfl rfl,xn g (fun e=>by cases e) (fun _=> ?_)⟩
   show(skip O cm (aa O (aa O N))).ab++[⟨(skip O cm (aa O (aa O N))).line,(skip O cm (aa O (aa O N))).aM,fG O (skip O cm (aa O (aa O N)))⟩]=_
   have kk:fG O (skip O cm (aa O (aa O N)))=O.extract x.p e:=by
    unfold fG
    rw[k3.on.b,g.here.b,k1.cut];rfl
   rw[k3.ab,kk,show(skip O cm (aa O (aa O N))).line=N.line by rw[k3.bm],show(skip O cm (aa O (aa O N))).aM=N.aM by rw[k3.bm]]
 ·exact .inr ⟨by show(dh O O.size x).ai≠0;rw[i1];decide,i2,fun _ _ hg=>absurd hg i3⟩
theorem GX{s x:U}:∀(n i:Nat) (j:Nat),qs s x n i=(j:Int)->∀k,i<=k->k<j->(s.extract k (k+x.size)).toList≠x.toList
 |0,i,j,h,k,_,_=>by rw[qs]at h;omega
 |n+1,i,j,h,k,h1,h2=>by
  rw[qs]at h
  split at h
  ·split at h
   ·omega
   ·rename_i h3
    by_cases hk:k=i
    ·subst hk;exact h3
    ·exact GX n (i+1) j h k (by omega) h2
  ·omega
theorem zE{s:U}{k:Nat}{a b:UInt8}(hk:k+2<=s.size):(s.extract k (k+(⟨#[a,b]⟩:U).size)).toList=(⟨#[a,b]⟩:U).toList↔s.get! k=a∧s.get! (k+1)=b:=by
 have hz:(⟨#[a,b]⟩:U).size=2:=rfl
 rw[hz]
 constructor
 ·intro h
  have e:=toList_inj h
  have g0:=a7 s k (k+2) 0 hk (by omega)
  have g1:=a7 s k (k+2) 1 hk (by omega)
  rw[e]at g0 g1
  exact⟨g0.symm,g1.symm⟩
 ·rintro⟨h0,h1⟩
  refine congrArg ByteArray.toList (fx ((aA _ _ _ hk).trans (by rw[hz,Nat.add_sub_cancel_left])) (fun j hj=> ?_))
  rw[aA _ _ _ hk]at hj
  rw[a7 _ _ _ _ hk (by omega)]
  have:j=0∨j=1:=by omega
  rcases this with rfl|rfl
  ·exact h0
  ·exact h1
theorem qg{O:U}{a:Nat}(ha:a<=O.size){k:Int}(hk:gM (O.extract a O.size) ⟨#[42,47]⟩=k):
 (0<=k->a+k.toNat+2<=O.size∧(O.get! (a+k.toNat)).toNat=42∧(O.get! (a+k.toNat+1)).toNat=47∧∀j,a<=j->j<a+k.toNat->¬((O.get! j).toNat=42∧(O.get! (j+1)).toNat=47))∧
 (k<0->∀j,a<=j->j+2<=O.size->¬((O.get! j).toNat=42∧(O.get! (j+1)).toNat=47)):=by
 have hs:=aA O a O.size (Nat.le_refl _)
 have hz:(⟨#[42,47]⟩:U).size=2:=rfl
 have un:∀j,a<=j->(O.get! j).toNat=42∧(O.get! (j+1)).toNat=47->(O.extract a O.size).get! (j-a)=42∧(O.extract a O.size).get! (j-a+1)=47:=fun j hj h=>by
  rw[eD ha,eD ha,show a+(j-a)=j by omega,show a+(j-a+1)=j+1 by omega]
  exact⟨UInt8.toNat_inj.1 h.1,UInt8.toNat_inj.1 h.2⟩
 refine⟨fun h0=> ?_,fun h0 j hj hj2 h=> ?_⟩
 ·obtain⟨j,_,j2,j3,j4⟩:=p_ _ _ (show 0<=qs (O.extract a O.size) ⟨#[42,47]⟩ ((O.extract a O.size).size+1) 0 by unfold gM at hk;omega)
  have hj:k=(j:Int):=hk.symm.trans j4
  rw[hz]at j2
  have e:=(zE j2).1 j3
  rw[eD ha,eD ha]at e
  rw[hj,Int.toNat_natCast]
  refine⟨by omega,by rw[e.1];rfl,by rw[Nat.add_assoc,e.2];rfl,fun i hi yU h=> ?_⟩
  exact GX _ 0 j j4 (i-a) (Nat.zero_le _) (by omega) ((zE (by omega)).2 (un i hi h))
 ·exact BC (s:=O.extract a O.size) (x:=⟨#[42,47]⟩) (by omega) (j-a) (by rw[hz];omega) ((zE (by omega)).2 (un j hj h))
theorem B2{O:U}{e:Nat}(he:e<=O.size)(hb:(O.get! (e-1)).toNat<128):∀(n:Nat) (X:LS),X.ai=0->X.p<=e->(X.p=0->(Utf8.decode O 0).1≠65279)->e<=X.p+n->X.line=1+gE O X.p->X.st=kC O X.p->
 (∃cs,Cl O X.p cs e∧bV O e n X={X with p:=e,line:=1+gE O e,st:=kC O e})∨((bV O e n X).ai=1∧(bV O e n X).out=X.out∧¬rT O X.p)
 |0,X,h0,h1,h2,h3,hl,bn=>by
  have hp:X.p=e:=by omega
  subst hp
  exact .inl ⟨[],.nil,by rw[←hl,←bn];rfl⟩
 |n+1,X,h0,h1,h2,h3,hl,bn=>by
  rw[bV]
  by_cases bz:X.p<e
  ·rw[if_pos ⟨h0,bz⟩]
   have afZ:X.p<O.size:=by omega
   by_cases lM:ca O X.p=true
   ·have e1:cB O X.p X={X with ai:=1}:=by unfold cB;rw[if_pos lM]
    rw[e1]
    have e2:∀(k:Nat) (Y:LS),Y.ai=1->bV O e k Y=Y:=fun k Y hY=>by
     cases k with
     |zero=>rfl
     |succ k=>rw[bV,if_neg (fun hh=>by rw[hY]at hh;exact absurd hh.1 (by decide))]
    have e3:(br O {X with ai:=1} (aN O X.p)).ai=1∧(br O {X with ai:=1} (aN O X.p)).out=X.out:=by unfold br;split<;>exact⟨rfl,rfl⟩
    rw[e2 n _ e3.1]
    exact .inr ⟨e3.1,e3.2,An.lH afZ lM⟩
   ·have e1:cB O X.p X=X:=by unfold cB;rw[if_neg lM]
    rw[e1]
    have hc:=kD afZ (by simpa using lM) h2
    have hw:=hc.w
    have hpe:X.p+aN O X.p<=e:=by
     rcases hc.ch with⟨a1,a2,a3,a4⟩|⟨a1,a2,a3,a4,a5⟩
     ·omega
     ·by_cases hh:X.p+aN O X.p<=e
      ·exact hh
      ·have:=tY a1 (e-1) (by omega) (by omega)
       omega
    rw[zC hc hl bn]
    rcases B2 he hb n {X with p:=X.p+aN O X.p,line:=1+gE O (X.p+aN O X.p),st:=kC O (X.p+aN O X.p)} h0 hpe (fun e=>by have e:X.p+aN O X.p=0:=e;omega) (by show e<=X.p+aN O X.p+n;omega) rfl rfl with⟨cs,i1,i2⟩|⟨i1,i2,i3⟩
    ·exact .inl ⟨_,.cons hc i1,i2⟩
    ·exact .inr ⟨i1,i2,fun hg=>i3 (hg.step hc)⟩
  ·rw[if_neg (fun hh=>bz hh.2)]
   have hp:X.p=e:=by omega
   subst hp
   exact .inl ⟨[],.nil,by rw[←hl,←bn]⟩
theorem T_{O:U}{p i:Nat}{cs:List Int}(h:Cl O p cs i)(ZB:bA O i 42 1)(h47:bA O (i+1) 47 1):(∀j,p<=j->j<i->¬((O.get! j).toNat=42∧(O.get! (j+1)).toNat=47))->∀{st:St},Std O p st->
 ∃t,Std O (i+1) t∧t.ch=47∧jC O st t∧pR O st=(true,aa O t):=by
 induction h with
 |@nil p=>
  intro oL st bn
  obtain⟨e1,s1,s2⟩:=dZ bn ZB (.inl ⟨_,_,h47⟩)
  have e2:=(s1.of h47).1
  exact⟨_,s1,e2,s2,Sj (by omega) e1 e2⟩
 |@cons p w i r cs h1 h2 ih=>
  intro oL st bn
  obtain⟨e1,e2⟩:=bn.of h1
  have hw:=h1.w
  have ie:iP O (p+w):=h2.jq (.inl ⟨_,_,ZB⟩)
  have hn:=cv bn (by rw[e2];exact ie)
  have hs:=dA bn (by rw[e2];exact ie)
  rw[e2]at hn
  have hle:=h2.le
  obtain⟨t,t1,t2,t3,t4⟩:=ih ZB h47 (fun j hj hj2=>oL j (by omega) hj2) hn.1
  refine⟨t,t1,t2,hs.trans t3,?_⟩
  rw[←t4]
  by_cases hr:r=42
  ·subst hr
   obtain⟨b1,b2⟩:=h1.byte (by decide)
   subst b2
   have dH:(aa O st).ch≠47:=fun e=>by
    have ha:=hn.1.at (by omega)
    have:=(ha.byte (by omega)).1
    exact oL p (Nat.le_refl _) (by omega) ⟨by omega,by omega⟩
   have h0:0<=(aa O st).ch:=by
    rcases ie with⟨r',w',hc⟩|hc
    ·have:=(hn.1.of hc).1
     have:=hc.w
     omega
    ·have:=ZB.lt;omega
   exact KT (by omega) e1 dH h0
  ·exact Si (by omega) (by omega)
theorem zF(O:U)(a:Nat):∀k,gE O a<=gE O (a+k)
 |0=>Nat.le_refl _
 |k+1=>by have:=zF O a k;rw[←Nat.add_assoc,gE];omega
theorem af0{O:U}{a b:Nat}(h:a<=b)(hb:b<=O.size):(0:Int)<=Lib.indexByte (O.extract a b).data.toList 10↔gE O a<gE O b:=by
 have hz:=aA O a b hb
 constructor
 ·intro h0
  by_cases hh:gE O a<gE O b
  ·exact hh
  ·exfalso
   have key:∀i,a<=i->i<b->(O.get! i).toNat≠10:=fun i hi yU e=>by
    have m1:=zF O a (i-a)
    have m2:=zF O (i+1) (b-(i+1))
    rw[show a+(i-a)=i by omega]at m1
    rw[show i+1+(b-(i+1))=b by omega,(Lu e).1]at m2
    omega
   obtain⟨k,hk,rV⟩:∃k:Nat,Lib.indexByte (O.extract a b).data.toList 10=(k:Int)∧(O.extract a b).data.toList[k]? =some 10:=by
    have e:Lib.indexByte (O.extract a b).data.toList 10=((Lib.indexByte (O.extract a b).data.toList 10).toNat:Int):=by omega
    exact⟨_,e,(Lib.indexByte_some e).1⟩
   have hkl:=(List.getElem?_eq_some_iff.1 rV).1
   rw[bu,hz]at hkl
   have hg:=a7 O a b k hb hkl
   rw[dM,List.getD_eq_getElem?_getD,rV]at hg
   exact key (a+k) (by omega) (by omega) (by rw[←hg];rfl)
 ·intro h0
  by_cases hh:(0:Int)<=Lib.indexByte (O.extract a b).data.toList 10
  ·exact hh
  ·exfalso
   have:=DC (O:=O) (a:=a) (b-a) (fun i hi yU e=>by
    refine FM (c:=10) hh (j:=i-a) (by omega) ?_
    rw[a7 _ _ _ _ hb (by omega),show a+(i-a)=i by omega]
    exact UInt8.toNat_inj.1 e)
   rw[show a+(b-a)=b by omega]at this
   omega
theorem acP{A:bG}(hA:A.Ok){X:LS}{w:World}(h:bj A X.bg w){k:Int}(hk:gM (A.O.extract (X.p+2) A.O.size) ⟨#[42,47]⟩=k)(k0:k<0)(h2:X.p+2<=A.O.size){a:Act}(hd:a.defers=[])(hs:a.tmps.size=175)
 (e0:a.tmps.getD 0 undef= .pointer (some ⟨A.S,0,none⟩)){Q:Exit->Act->World->Prop}
 (hQ:∀a' w',a'.defers=[]->a'.tmps.size=175->a'.tmps.getD 2 undef= .bool true->bj A {X.bg with ai:=1} w'->eR A w w'->Q .ret a' w'):GM.wp Tryz.prog Q a w:=by
 have eJ:=h.ok.n1
 obtain⟨vo,vr,qc,_⟩:=h.jI
 have c0:w.cell? ⟨A.S,0,none⟩=some (.string A.O):=ag qc rfl
 have c1:w.cell? ⟨A.S,1,none⟩=some (.int .i64 X.p):=ag qc rfl
 have hIx:=fun w=>oh w (A.O.extract (X.p+2) A.O.size) ⟨#[42,47]⟩ (Nat.le_trans (hU eJ _ _) (by omega)) (by decide)
 rw[hk]at hIx
 have k1:IntKind.i64.wrap ((X.p:Int)+2)=((X.p+2:Nat):Int):=aG (by omega) (by omega)
 have k3:((X.p:Nat):Int)+2<=(A.O.size:Int):=by omega
 have k4:0<=((X.p:Nat):Int)+2:=by omega
 obtain⟨y,hy,ha⟩:=df 175 a hd hs
 rw[ha]
 rw[←hy]at e0
 clear ha hy hd hs
 simp only[GM,GL,ji,wa,jh,isT,av,Tryz.f28,Option.getD,Nat.beq,cond,List.range,List.range.loop,List.map]
 rw[e0]
 have H:=Lib.hid h
 clear h qc
 go_wp2_with fail
 go_region_held3 (fun w'=>w'.cell? ⟨A.S,0,none⟩=some (.string A.O)∧w'.cell? ⟨A.S,1,none⟩=some (.int .i64 X.p)) (go_keep) ((go_at_call 31;refine(hIx _).mono ?_;rintro en w' ⟨rfl,rfl⟩))
 go_split_ands
 rename_i d0 d1
 have Hd:bj A X.bg w.drew:=H.out.kept dm
 have f7:(w.drew).frozen? ⟨A.S,7,none⟩=false:=by obtain⟨_,_,hb,_⟩:=Hd.jI;exact aV hb
 have c7:(w.drew).cell? ⟨A.S,7,none⟩=some (.int .i64 X.ai):=by obtain⟨_,_,hb,_⟩:=Hd.jI;exact ag hb rfl
 have Hs:=eB (x':={X.bg with ai:=1}) Hd (o:=7) (v:= .int .i64 1) (fun _ _=>rfl) rfl rfl
 have Hf:=eR.trans (hH w) (ig Hd 7 (.int .i64 1))
 clear Hd
 go_wp2_with fail
 exact hQ _ _ rfl rfl rfl Hs Hf
abbrev DH:Code:=BV GL
theorem YE{w:World}{a:Act}(hd:a.defers=[])(hs:a.tmps.size=175){Q:Exit->Act->World->Prop}(hQ:∀a',a'.defers=[]->a'.tmps.size=175->a'.tmps.getD 2 undef= .bool false->Q .ret a' w):DH.wp Tryz.prog Q a w:=by
 obtain⟨y,hy,ha⟩:=df 175 a hd hs
 rw[ha]
 clear ha hy hd hs
 simp only[DH,GL,ji,BV,jh,isT,av,Tryz.f28,Option.getD,Nat.beq,cond,List.range,List.range.loop,List.map]
 go_wp2_with fail
 exact hQ _ rfl rfl rfl
theorem YF:GL= .cond (.tmp 86) GM DH:=by kernel_rfl
theorem xp{A:bG}{N:Nat}{e:E (LY A)}{bl:List Nat}{a a':Act}{w w':World}{aO:LI}{ex:Ex}{Q:Ex×E (LY A)->Prop}{tm:List (Nat×SV)}(hI:cL (LY A) N e bl a w)(hd:a'.defers=[])(hs:a'.tmps.size=N)(hi:bj A aO w')(hf:eR A w w')
 (hrel:∀i,Rel (LY A) bl w' (Ev.look tm i) (a'.tmps.getD i undef))(hq:Q (ex,⟨⟨aO,e.c.bx⟩,tm⟩)):oG (LY A) N Q bl w ex.oN a' w':=by
 obtain⟨h1,h2⟩:=GI hI.core hi hf
 exact .inl ⟨ex,_,bl,hq,rfl,⟨h1,hd,hs,hrel⟩,h2⟩
theorem GY{s:U}{e:Nat}:∀(n:Nat) (X:LS),X.ai=0->(bV s e n X).ai=0∨(bV s e n X).ai=1
 |0,X,h=> .inl h
 |n+1,X,h=>by
  rw[bV]
  split
  ·have bn:∀Y:LS,∀m,(br s Y m).ai=Y.ai:=fun Y m=>by unfold br;split<;>rfl
   by_cases hb:ca s X.p=true
   ·have e1:(br s (cB s X.p X) (aN s X.p)).ai=1:=by rw[bn];unfold cB;rw[if_pos hb]
    cases n with
    |zero=>exact .inr e1
    |succ n=>
     rw[bV,if_neg (fun hh=>by rw[e1]at hh;exact absurd hh.1 (by decide))]
     exact .inr e1
   ·exact GY n _ (by rw[bn];unfold cB;rw[if_neg hb];exact h)
  ·exact .inl h
def zG(s:U)(X:LS):LS:=bV s (X.p+(gM (s.extract (X.p+2) s.size) ⟨#[42,47]⟩).toNat+4) s.size (if(bV s (X.p+(gM (s.extract (X.p+2) s.size) ⟨#[42,47]⟩).toNat+4) s.size X).ai=0∧0<=Lib.indexByte (s.extract X.p (X.p+2+(gM (s.extract (X.p+2) s.size) ⟨#[42,47]⟩).toNat)).data.toList 10 then cY X else X)
def rmC(A:bG)(p:LI×List Value×List SV):af (Ex×E (LY A)):=match p.2.2 with
 |[b,.val (.int .i64 f),.val (.int .i64 l),.val (.int .i64 c)]=>match gk b with
  |some b=> .aj b (.aY (p.1=p.1.dL.bg∧Fit A.O p.1.dL∧A.rows=true∧p.1.dL.p+2<=A.O.size∧p.1.dL.ai=0)
   (.aj (decide (gM (A.O.extract (p.1.dL.p+2) A.O.size) ⟨#[42,47]⟩<0)) (.ae (.ret,⟨⟨{p.1 with ai:=1},p.2.1⟩,[(2,.val (.bool true))]⟩))
     (.ae (.normal,wC [3,4,5] ((zG A.O p.1.dL).bg,p.2.1,[.val (.int .i64 f),.val (.int .i64 l),.val (.int .i64 c)])))))
   (.ae (.ret,⟨⟨p.1,p.2.1⟩,[(2,.val (.bool false))]⟩))
  |none=> .fail
 |_=> .fail
theorem DI{A:bG}{bl:List Nat}{w:World}{a:Act}{k:Nat}{v:Value}(h:a.tmps.getD k undef=v):∀i,Rel (LY A) bl w (Ev.look [(k,.val v)] i) (a.tmps.getD i undef):=fun i=>by
 rw[aF]
 by_cases hi:i=k
 ·rw[if_pos hi,hi];exact h
 ·rw[if_neg hi];exact trivial
theorem acQ{A:bG}{bl:List Nat}{w:World}{a:Act}{f l c:Int}(h0:a.tmps.getD 0 undef= .pointer (some ⟨A.S,0,none⟩))(h3:a.tmps.getD 3 undef= .int .i64 f)(h4:a.tmps.getD 4 undef= .int .i64 l)(h5:a.tmps.getD 5 undef= .int .i64 c):
 ∀i,Rel (LY A) bl w (Ev.look [(0,.st 0),(3,.val (.int .i64 f)),(4,.val (.int .i64 l)),(5,.val (.int .i64 c))] i) (a.tmps.getD i undef):=fun i=>by
 rw[aF,aF,aF,aF]
 by_cases i0:i=0
 ·rw[if_pos i0,i0];exact h0
 rw[if_neg i0]
 by_cases i3:i=3
 ·rw[if_pos i3,i3];exact h3
 rw[if_neg i3]
 by_cases i4:i=4
 ·rw[if_pos i4,i4];exact h4
 rw[if_neg i4]
 by_cases i5:i=5
 ·rw[if_pos i5,i5];exact h5
 rw[if_neg i5];exact trivial
theorem GZ(A:bG)(hA:A.Ok):ki (LY A) Tryz.f28.ntmps GL (cx (eK [86,3,4,5]) (rmC A)):=by
 refine zx (F:=wC [86,3,4,5]) ⟨fun p bl a w Q hI hs=> ?_,fun p Q hb _=>hb.elim⟩ (kf [86,3,4,5])
 obtain⟨x,bx,vs⟩:=p
 rw[YF]
 unfold rmC at hs
 split at hs
 ·rename_i b f l c heq
  obtain rfl:vs=_:=heq
  split at hs
  ·rename_i b' hb
   have look:∀i,Ev.look (wC [86,3,4,5] (x,bx,[b,.val (.int .i64 f),.val (.int .i64 l),.val (.int .i64 c)]):E (LY A)).tm i=
    if i=0 then .st 0 else if i=86 then b else if i=3 then .val (.int .i64 f)else if i=4 then .val (.int .i64 l)else if i=5 then .val (.int .i64 c)else .jk:=fun i=>by
    show Ev.look [(0,_),(86,_),(3,_),(4,_),(5,_)] i=_
    rw[aF,aF,aF,aF,aF];rfl
   have hv:a.tmps.getD 86 undef= .bool b':=by
    have:=hI.rel 86
    rw[look]at this
    exact fs this (oq hb)
   cases b' with
   |true=>
    obtain⟨⟨hx,hf,hr,h2,bn⟩,hq⟩:=hs.1 rfl
    simp only at hx hf h2 bn
    refine wp_cond_true hv ?_
    have r0:=hI.rel 0
    have r3:=hI.rel 3
    have r4:=hI.rel 4
    have r5:=hI.rel 5
    rw[look]at r0 r3 r4 r5
    have r3:a.tmps.getD 3 undef= .int .i64 f:=r3
    have r4:a.tmps.getD 4 undef= .int .i64 l:=r4
    have r5:a.tmps.getD 5 undef= .int .i64 c:=r5
    have hLI:bj A x.dL.bg w:=by rw[←hx];exact hI.core.inv
    generalize hk:gM (A.O.extract (x.dL.p+2) A.O.size) ⟨#[42,47]⟩=k at hq
    by_cases G7:k<0
    ·have hq:=hq.1 (decide_eq_true G7)
     refine acP hA hLI hk G7 h2 hI.defers hI.size r0 (fun a' w' g1 g2 g3 g4 g5=> ?_)
     rw[←hx]at g4
     exact xp (ex:= .ret) hI g1 g2 g4 g5 (DI g3) hq
    ·have hq:=hq.2 (decide_eq_false G7)
     have hkn:k=(k.toNat:Int):=by omega
     obtain⟨c1,_⟩:=(qg (O:=A.O) (a:=x.dL.p+2) h2 hk).1 (by omega)
     refine Yq hA hr hf hLI (k:=k.toNat) (hk.trans hkn) (by omega) hI.defers hI.size r0 r3 r4 r5 rfl (GY _ _ bn) rfl rfl (fun a' w' g1 g2 g3 g4 g5 g6 g7 g8=> ?_)
     refine xp (ex:= .normal) hI g1 g2 (aO:=(zG A.O x.dL).bg) ?_ g8 (acQ g3 g4 g5 g6) hq
     unfold zG
     rw[hk]
     exact g7
   |false=>
    refine wp_cond_false hv (YE hI.defers hI.size (fun a' g1 g2 g3=> ?_))
    exact xp (ex:= .ret) hI g1 g2 hI.core.inv (Fr.refl _ _ _) (DI g3) (hs.2 rfl)
  ·exact hs.elim
 ·exact hs.elim
theorem YG{O:U}{p q i:Nat}{cs:List Int}(h:Cl O p cs q)(h1:p<=i)(h2:i<=q)(hb:(O.get! i).toNat<128):∃ds,Cl O p ds i:=by
 induction h with
 |nil=>have:i=_:=Nat.le_antisymm h2 h1;subst this;exact⟨[],.nil⟩
 |@cons p w q r cs k1 k2 ih=>
  by_cases hi:i=p
  ·subst hi;exact⟨[],.nil⟩
  ·by_cases hw:p+w<=i
   ·obtain⟨ds,hd⟩:=ih hw h2
    exact⟨_,.cons k1 hd⟩
   ·exfalso
    rcases k1.ch with⟨a1,a2,a3,a4⟩|⟨a1,a2,a3,a4,a5⟩
    ·omega
    ·have:=tY a1 i h1 (by omega)
     omega
theorem B3{O:U}{e:Nat}:∀(n:Nat) (x:LS) (o:List eP) (b:Bool),bV O e n {x with out:=o,ends:=b}={bV O e n x with out:=o,ends:=b}
 |0,_,_,_=>rfl
 |n+1,x,o,b=>by
  rw[bV,bV]
  have e1:br O (cB O x.p {x with out:=o,ends:=b}) (aN O x.p)={br O (cB O x.p x) (aN O x.p)with out:=o,ends:=b}:=by
   unfold cB
   by_cases h1:ca O x.p=true
   ·rw[if_pos h1,if_pos h1]
    unfold br
    by_cases h2:(O.get! x.p).toNat=10
    ·rw[if_pos h2,if_pos h2]
    ·rw[if_neg h2,if_neg h2]
   ·rw[if_neg h1,if_neg h1]
    unfold br
    by_cases h2:(O.get! x.p).toNat=10
    ·rw[if_pos h2,if_pos h2]
    ·rw[if_neg h2,if_neg h2]
  by_cases h:x.ai=0∧x.p<e
  ·rw[if_pos h,if_pos h]
   show bV O e n (br O (cB O x.p {x with out:=o,ends:=b}) (aN O x.p))=_
   rw[e1]
   exact B3 n _ o b
  ·rw[if_neg h,if_neg h]
theorem Lz{O:U}{nl:Bool}{N:St}(h1:N.ch=47)(h2:(aa O N).ch=42):(jM O nl N).get Sc.iN=if u64 (1+(aJ O (aa O (aa O N))).aC)>(aJ O (aa O (aa O N))).line∧nl=true
 then .done (lit gu (aJ O (aa O (aa O N)))) []else .fP (aJ O (aa O (aa O N))):=by
 generalize hF:aJ O (aa O (aa O N))=F
 unfold jM
 cases nl<;>by_cases hc:u64 (1+F.aC)>F.line<;>simp[af.get,h1,fi,h2,hF,hc]
theorem OD{O:U}{m:Int}{x:LS}{st:St}(h:Bd O m x st)(hm:m=0)(hs:Sub O x.p Jk)(hk:gM (O.extract (x.p+2) O.size) ⟨#[42,47]⟩<0)(hg:rT O x.p):(aK O st).1.ab≠[]:=by
 subst hm
 have hle:=hs.le
 have eJ:Jk.size=2:=rfl
 have c0:bA O x.p 47 1:=by have:=ez hs 0 (by decide) (by decide) (by decide);exact this
 have c1:bA O (x.p+1) 42 1:=by have:=ez hs 1 (by decide) (by decide) (by decide);exact this
 obtain⟨cs,L3⟩:=(hg.step c0).step c1
 obtain⟨N,g,kE,qY⟩:=h.sw2 c0 (by cases x.ends<;>rfl) (by decide) (by decide)
 obtain⟨_,s1,s2⟩:=dZ g.here.gQ c0 (.inl ⟨_,_,c1⟩)
 obtain⟨e1,s3,s4⟩:=dZ s1 c1 (L3.jq (.inr rfl))
 have s5:=s2.trans s4
 have qH:(aa O (aa O N)).mode=0:=by rw[s5.bm];exact g.here.mode.trans h.mode
 have ie:ja cs=none:=by
  cases hc:ja cs with
  |none=>rfl
  |some r=>
   obtain⟨i,i1,i2,i3,i4⟩:=NV L3 hc
   exact absurd ⟨i3,i4⟩ ((qg (O:=O) (a:=x.p+2) (by omega) rfl).2 hk i (by omega) (by omega))
 have rV:=ae8 L3 rfl (s3.same (b:=stop (aa O (aa O N))) rfl rfl rfl rfl)
 rw[ie]at rV
 obtain⟨t,k1,k2,k3⟩:=rV
 have ef:aJ O (aa O (aa O N))=bF 0 ir t:=by
  rw[FQ qH]
  unfold gK aT
  rw[k1]
  simp
 have hn:t.ab=N.ab:=k3.ab.trans s5.ab
 have hlen:N.ab.length<(bF 0 ir t).ab.length:=by show N.ab.length<(t.ab++[_]).length;rw[hn];simp
 have Hp:=Lz (O:=O) (nl:=x.ends) kE e1
 rw[ef]at Hp
 have IW:fQ O (bF 0 ir t):= .inl (k2.pos.same rfl rfl rfl)
 have GP:(bF 0 ir t).au=false:=by
  show t.au=false
  rw[k3.bm]
  show(aa O (aa O N)).au=false
  rw[s5.bm]
  exact g.here.nl
 rw[cR,h.nl,dB h.pos h.iv.sz,qY,Hp]
 refine GV (a:=N) ?_
 split
 ·exact hlen
 ·have:=ru (nl:=x.ends) GP IW h.iv.sz
  show N.ab.length<(gv O x.ends (bF 0 ir t)).1.ab.length
  omega
theorem bO.YH{O:U}{m:Int}{x:LS}{st:St}(hm:m=0∨m=1)(h:Bd O m x st){n:Nat}(ih:∀x st,Bd O m x st->O.size+1<=x.p+n->bO O m x st (fD O n x))(hn:O.size<=x.p+n)(hs:Sub O x.p Jk){k:Nat}(hk:gM (O.extract (x.p+2) O.size) ⟨#[42,47]⟩=(k:Int)):
 uZ O m x st n (T9 O x (bV O (x.p+k+4) O.size (if(bV O (x.p+k+4) O.size x).ai=0∧(0:Int)<=Lib.indexByte (O.extract x.p (x.p+2+k)).data.toList 10 then cY x else x))):=by
 have hle:=hs.le
 have eJ:Jk.size=2:=rfl
 have c0:bA O x.p 47 1:=by have:=ez hs 0 (by decide) (by decide) (by decide);exact this
 have c1:bA O (x.p+1) 42 1:=by have:=ez hs 1 (by decide) (by decide) (by decide);exact this
 obtain⟨j1,j2,j3,j4⟩:=(qg (O:=O) (a:=x.p+2) (by omega) hk).1 (by omega)
 rw[Int.toNat_natCast]at j1 j2 j3 j4
 have he:x.p+k+4<=O.size:=by omega
 have c2:bA O (x.p+2+k) 42 1:=by
  have:=cM (O:=O) (p:=x.p+2+k) (by omega) (by omega) (by omega)
  rw[j2]at this;exact this
 have c3:bA O (x.p+2+k+1) 47 1:=by
  have:=cM (O:=O) (p:=x.p+2+k+1) (by omega) (by omega) (by omega)
  rw[j3]at this;exact this
 have hb:(O.get! (x.p+k+4-1)).toNat<128:=by rw[show x.p+k+4-1=x.p+2+k+1 by omega,j3];decide
 have run:=fun X:LS=>B2 (O:=O) (e:=x.p+k+4) he hb O.size X
 have r1:=run x h.clean (by omega) h.b0 (by omega) h.line h.bol
 have hse:cY x={x with out:=if x.ends=true then x.out++[⟨4,⟨#[]⟩,0,x.line,0⟩]else x.out,ends:=false}:=rfl
 rcases r1 with⟨cs,i1,i2⟩|⟨i1,i2,i3⟩
 ·have r2:bV O (x.p+k+4) O.size (cY x)={cY x with p:=x.p+k+4,line:=1+gE O (x.p+k+4),st:=kC O (x.p+k+4)}:=by rw[hse,B3,i2]
  have aiF:(bV O (x.p+k+4) O.size x).ai=0:=by rw[i2];exact h.clean
  obtain⟨ds,qx⟩:∃ds,Cl O (x.p+1+1) ds (x.p+2+k):=by
   have i1':=i1
   have he4:x.p+2+k<x.p+k+4:=by omega
   generalize x.p+k+4=e4 at i1' he4
   cases i1' with
   |cons k1 k2=>
    obtain⟨e1,e2⟩:=k1.uniq c0
    subst e1 e2
    cases k2 with
    |cons k3 k4=>
     obtain⟨e3,e4⟩:=k3.uniq c1
     subst e3 e4
     exact YG k4 (by omega) (by omega) (by omega)
    |nil=>omega
   |nil=>omega
  obtain⟨N,g,kE,qY⟩:=h.sw2 c0 (by cases x.ends<;>rfl) (by decide) (by decide)
  obtain⟨_,s1,s2⟩:=dZ g.here.gQ c0 (.inl ⟨_,_,c1⟩)
  obtain⟨e1,s3,s4⟩:=dZ s1 c1 (qx.jq (.inl ⟨_,_,c2⟩))
  have s5:=s2.trans s4
  have qH:(aa O (aa O N)).mode=m:=by rw[s5.bm];exact g.here.mode.trans h.mode
  have oL:∀j,x.p+1+1<=j->j<x.p+2+k->¬((O.get! j).toNat=42∧(O.get! (j+1)).toNat=47):=fun j a b=>j4 j (by omega) b
  obtain⟨t,F,f1,f2,f3,f4,f5⟩:∃t F,aJ O (aa O (aa O N))=F∧(Std O (x.p+2+k+1) t∧t.ch=47∧On O {N with b:=t.b} t)∧(F.aC=(aa O t).aC∧F.line=N.line)∧F.au=false∧
   (iP O (x.p+k+4)->Std O (x.p+k+4) F∧O1 O m F (x.rem++[⟨O.extract x.p (x.p+k+4),x.line,(x.p:Int)-x.st+1⟩])):=by
   have hx4:x.p+2+k+1+1=x.p+k+4:=by omega
   rcases hm with rfl|rfl
   ·obtain⟨t,t1,t2,t3,t4⟩:=T_ qx c2 c3 oL (s3.same (b:=stop (aa O (aa O N))) rfl rfl rfl rfl)
    have eF:aJ O (aa O (aa O N))=aa O t:=by
     rw[FQ qH]
     unfold gK aT
     rw[t4];rfl
    have kt:=t3.bm
    have k5:=s5.bm
    refine⟨t,_,eF,⟨t1,t2,?_⟩,⟨rfl,?_⟩,?_,fun ie=> ?_⟩
    ·have e3:t.b=none:=by rw[kt];rfl
     rw[e3]
     exact((aR O {N with b:=none}).trans (aR O (aa O {N with b:=none}))).trans t3.on
    ·show t.line=N.line
     rw[kt]
     show(aa O (aa O N)).line=_
     rw[k5]
    ·show t.au=false
     rw[kt]
     show(aa O (aa O N)).au=_
     rw[k5]
     exact g.here.nl
    ·obtain⟨_,u1,u2⟩:=dZ t1 c3 (by rw[hx4];exact ie)
     rw[hx4]at u1
     exact⟨u1,xn g (fun _=>u2.ab.trans (t3.ab.trans s5.ab)) (fun e=>by cases e)⟩
   ·obtain⟨t,t1,t2,t3,t4⟩:=T_ qx c2 c3 oL s3
    have eF:aJ O (aa O (aa O N))=ld (fG O (aa O t)) (aa O t):=by
     rw[acN qH]
     unfold qD aT
     rw[t4];rfl
    have t5:=s5.trans t3
    have kt:=t5.bm
    refine⟨t,_,eF,⟨t1,t2,?_⟩,⟨rfl,?_⟩,?_,fun ie=> ?_⟩
    ·have e3:t.b=N.b:=by rw[kt]
     rw[e3];exact t5.on
    ·show t.line=N.line
     rw[kt]
    ·show t.au=false
     rw[kt]
     exact g.here.nl
    ·obtain⟨_,u1,u2⟩:=dZ t1 c3 (by rw[hx4];exact ie)
     rw[hx4]at u1
     have u3:=t5.trans u2
     refine⟨u1.same rfl rfl rfl rfl,xn g (fun e=>by cases e) (fun _=> ?_)⟩
     have kk:fG O (aa O t)=O.extract x.p (x.p+k+4):=by
      unfold fG
      rw[u3.on.b,g.here.b,u1.cut];rfl
     show(aa O t).ab++[⟨(aa O t).line,(aa O t).aM,fG O (aa O t)⟩]=_
     rw[u3.ab,kk,show(aa O t).line=N.line by rw[u3.bm],show(aa O t).aM=N.aM by rw[u3.bm]]
  obtain⟨ft1,ft2,ft3⟩:=f2
  obtain⟨fl1,fl2⟩:=f3
  have F6:(u64 (1+F.aC)>F.line)↔gE O x.p<gE O (x.p+2+k):=by
   obtain⟨bl,nl,eN⟩:=g.here.eq
   have hP:=g.here.gQ.pos
   have a0:=(ly (nl:=nl) h.pos).2.1.kp h.iv.sz (h.iv.kp.same rfl rfl rfl rfl)
   have kN:Kp N:=by rw[eN];exact a0.1.same rfl rfl rfl rfl
   have n1:=kN.l0;have n2:=kN.l;have n3:=hP.n
   have eL:N.line=u64 (1+N.aC):=by rw[eN];rfl
   have hcut:=g.here.gQ.cut
   have hcw:=(g.here.gQ.of c0).2
   have af1:=g.here.gQ.here
   have lnN:Ln O (N.aC-gE O x.p) {N with b:=t.b}:=by
    refine⟨by show N.bD<=N.p;omega,?_,?_⟩
    ·show N.aC=_+((gE O (N.p-N.bD):Nat):Int)
     rw[hcut];omega
    ·show(if N.ch=10 then N.aC+1 else N.aC)=_+((gE O N.p:Nat):Int)
     rw[if_neg (by omega),af1,hcw,(c0.nl (by decide)).1];omega
   have hP2:Pos O {N with b:=t.b}:=hP.same rfl rfl rfl
   have kN2:Kp {N with b:=t.b}:=kN.same rfl rfl rfl rfl
   have lnt:=ft3.ind hP2 h.iv.sz kN2 _ (acx h.iv.sz _) lnN
   have kt:=(ft3.kp hP2 h.iv.sz kN2).1
   have l1:=lnt.line
   rw[ft1.cut]at l1
   have hF0:F.aC=t.aC:=by
    rw[fl1]
    show aB t=_
    unfold aB
    rw[if_neg (by rw[ft2];decide)]
   have m1:=(c2.nl (by decide)).1
   have m2:=DB O (x.p+2+k)
   have kt0:=kt.l0;have kt1:=kt.l;have amw:=h.iv.sz
   have tn:=ft1.pos.n
   rw[hF0,fl2,eL,b_ (n:=1+t.aC) (by omega) (by omega),b_ (n:=1+N.aC) (by omega) (by omega)]
   omega
  have GP:=af0 (O:=O) (a:=x.p) (b:=x.p+2+k) (by omega) (by omega)
  have Hp:=Lz (O:=O) (nl:=x.ends) kE e1
  rw[f1]at Hp
  by_cases YI:gE O x.p<gE O (x.p+2+k)
  ·rw[if_pos ⟨aiF,GP.2 YI⟩,r2]
   cases hE:x.ends with
   |true=>
    rw[hE]at Hp qY
    rw[if_pos ⟨F6.2 YI,rfl⟩]at Hp
    rw[Hp]at qY
    refine .inl ⟨h.clean,?_⟩
    have e2:(aK O st).1=lit gu F:=by rw[cR,h.nl,hE,dB h.pos h.iv.sz,qY];rfl
    have ht:(aK O st).1.tok=18:=by rw[e2];rfl
    refine bO.one (x':=T9 O x {cY x with p:=x.p+k+4,line:=1+gE O (x.p+k+4),st:=kC O (x.p+k+4)}) (.one (by rw[ht];decide)) (by show(if x.ends=true then _ else _)=_;rw[if_pos hE]) (rM ht (by rw[e2];show gu.toList≠_;rw[show gu.toList=[110,101,119,108,105,110,101]by kernel_rfl];decide) _) (fun hg=>hg.on i1)
     (ih _ _ (h.to (by rw[e2];exact f4) (by show x.p<=x.p+k+4;omega) he h.clean ?_ rfl rfl (fun ie=> ?_)) (by show O.size+1<=x.p+k+4+n;omega))
    ·show x.fst<=(if x.ends=true then _ else _:List eP).length
     rw[if_pos hE]
     have:=h.fst
     simp;omega
    ·obtain⟨u1,u2⟩:=f5 ie
     rw[e2]
     exact⟨.gQ (u1.same rfl rfl rfl rfl),u2.eq rfl⟩
   |false=>
    rw[hE]at Hp qY
    rw[if_neg (fun hh=>by cases hh.2)]at Hp
    rw[Hp]at qY
    refine .inl ⟨h.clean,bO.zD h ih hn (by rw[hE];exact qY) i1 (show x.p<x.p+k+4 by omega) h.clean ?_ rfl hE.symm rfl rfl f5⟩
    show(if x.ends=true then _ else _)=_
    rw[if_neg (by rw[hE];decide)]
  ·rw[if_neg (fun hh=>YI (GP.1 hh.2)),i2]
   rw[if_neg (fun hh=>YI (F6.1 hh.1))]at Hp
   rw[Hp]at qY
   exact .inl ⟨h.clean,bO.zD h ih hn qY i1 (show x.p<x.p+k+4 by omega) h.clean rfl rfl rfl rfl rfl f5⟩
 ·rw[if_neg (fun hh=>by rw[i1]at hh;exact absurd hh.1 (by decide))]
  exact .inr ⟨by show(bV O (x.p+k+4) O.size x).ai≠0;rw[i1];decide,i2,fun _ _ hg=>absurd hg i3⟩
theorem YJ{O:U}{m:Int}{x:LS}{st:St}(hm:m=0∨m=1)(h:Bd O m x st){n:Nat}(ih:∀x st,Bd O m x st->O.size+1<=x.p+n->bO O m x st (fD O n x))(hn:O.size<=x.p+n)(hp:x.p<O.size)
 (hb:(O.get! x.p).toNat≠10∧(O.get! x.p).toNat≠32∧(O.get! x.p).toNat≠9∧(O.get! x.p).toNat≠13):uZ O m x st n ((bT O x).getD (bR O x)):=by
 unfold bT
 simp only
 by_cases h2:Lib.hasPrefix (O.extract x.p O.size).data.toList N1.data.toList=true
 ·rw[if_pos h2]
  exact bO.YD hm h ih hn ((dv h.le).1 h2)
 rw[if_neg h2]
 by_cases hS:Lib.hasPrefix (O.extract x.p O.size).data.toList Jk.data.toList=true
 ·rw[if_pos hS]
  have hs:=(dv h.le).1 hS
  by_cases hk:gM (O.extract (x.p+2) O.size) ⟨#[42,47]⟩<0
  ·rw[if_pos hk]
   exact .inr ⟨Nat.one_ne_zero,rfl,fun _ UA hg=>qd h.iv (OD h UA hs hk hg)⟩
  ·rw[if_neg hk]
   exact bO.YH hm h ih hn hs (k:=(gM (O.extract (x.p+2) O.size) ⟨#[42,47]⟩).toNat) (by omega)
 ·rw[if_neg hS]
  exact YC h ih hn hp hb (fun hh=>h2 ((dv h.le).2 hh)) (fun hh=>hS ((dv h.le).2 hh))
theorem G0{O:U}{m:Int}(hm:m=0∨m=1):∀(n:Nat) (x:LS) (st:St),Bd O m x st->O.size+1<=x.p+n->bO O m x st (fD O n x)
 |0,x,st,h,hn=>by have:=h.le;omega
 |n+1,x,st,h,hn=>by
  rw[fD,if_pos h.clean]
  refine bO.blank O.size x st h (by omega) (fun x' aO h' oD Yt wm=> ?_)
  have hle:=h'.le
  by_cases oJ:O.size<=x'.p
  ·have e:iC O x=(dk O (cY x') 0 0 x'.p,true):=by
    unfold iC
    simp only
    rw[←oD,if_pos oJ]
   rw[e,if_pos rfl]
   exact h'.fin (by omega)
  ·have R:=YJ hm h' (G0 hm n) (by omega) (by omega) (wm (by omega))
   have e:iC O x=if((bT O x').getD (bR O x')).ai≠0∧x'.p=((bT O x').getD (bR O x')).stop∧0<((bT O x').getD (bR O x')).out.length then({(bT O x').getD (bR O x')with out:=((bT O x').getD (bR O x')).out.take ((bT O x').getD (bR O x')).fst},false)else((bT O x').getD (bR O x'),false):=by
    unfold iC
    simp only
    rw[←oD,if_neg oJ]
   rw[e]
   generalize(bT O x').getD (bR O x')=y at*
   rcases R with⟨y0,F⟩|⟨y0,yo,told⟩
   ·rw[if_neg (show¬(y.ai≠0∧x'.p=y.stop∧0<y.out.length) from fun hh=>hh.1 y0)]
    exact F
   ·by_cases hd:y.ai≠0∧x'.p=y.stop∧0<y.out.length
    ·rw[if_pos hd]
     show bO O m x' aO (fD O n {y with out:=y.out.take y.fst})
     rw[nr n _ (show({y with out:=y.out.take y.fst}:LS).ai≠0 from y0)]
     exact .pre h'.iv (k:=y.fst) (by rw[←yo]) y0 told
    ·rw[if_neg hd]
     show bO O m x' aO (fD O n y)
     rw[nr n _ y0]
     exact .pre h'.iv (k:=x'.out.length) (by rw[yo,List.take_length]) y0 told
theorem OE{O:U}(h:(Utf8.decode O 0).1=65279):(Utf8.decode O 0).2=3∧Sub O 0 Gg:=by
 have z0:=(O.get! 0).toNat_lt;have z1:=(O.get! (0+1)).toNat_lt;have z2:=(O.get! (0+2)).toNat_lt;have z3:=(O.get! (0+3)).toNat_lt
 rw[decode_at]at h⊢
 unfold decodeN at h⊢
 by_cases k0:(O.get! 0).toNat<128
 ·rw[if_pos k0]at h;simp only at h;omega
 rw[if_neg k0]at h⊢
 by_cases k1:(O.get! 0).toNat/32=6∧(1<O.size-0∧(O.get! (0+1)).toNat/64=2)
 ·rw[if_pos k1]at h
  split at h<;>(simp only at h;omega)
 rw[if_neg k1]at h⊢
 by_cases k2:(O.get! 0).toNat/16=14∧(1<O.size-0∧(O.get! (0+1)).toNat/64=2)∧(2<O.size-0∧(O.get! (0+2)).toNat/64=2)
 ·rw[if_pos k2]at h⊢
  by_cases k3:(O.get! 0).toNat%16*4096+(O.get! (0+1)).toNat%64*64+(O.get! (0+2)).toNat%64>=2048∧((O.get! 0).toNat%16*4096+(O.get! (0+1)).toNat%64*64+(O.get! (0+2)).toNat%64<55296∨(57344<=(O.get! 0).toNat%16*4096+(O.get! (0+1)).toNat%64*64+(O.get! (0+2)).toNat%64∧(O.get! 0).toNat%16*4096+(O.get! (0+1)).toNat%64*64+(O.get! (0+2)).toNat%64<=1114111))
  ·rw[if_pos k3]at h⊢
   simp only at h
   refine⟨rfl,by show 0+3<=_;omega,fun j hj=> ?_⟩
   have hj:j<3:=hj
   have:j=0∨j=1∨j=2:=by omega
   rcases this with rfl|rfl|rfl
   ·exact UInt8.toNat_inj.1 (by show(O.get! 0).toNat=239;omega)
   ·exact UInt8.toNat_inj.1 (by show(O.get! (0+1)).toNat=187;omega)
   ·exact UInt8.toNat_inj.1 (by show(O.get! (0+2)).toNat=191;omega)
  ·rw[if_neg k3]at h;simp only at h;omega
 rw[if_neg k2]at h
 split at h
 ·split at h<;>(simp only at h;omega)
 ·simp only at h;omega
theorem YK{O:U}(h:Sub O 0 Gg):(Utf8.decode O 0).1=65279:=by
 have hl:=h.le
 have g0:=h.get 0 (by decide);have g1:=h.get 1 (by decide);have g2:=h.get 2 (by decide)
 have hz:0+3<=O.size:=hl
 rw[decode_at]
 unfold decodeN
 have e0:(O.get! 0).toNat=239:=by rw[Nat.zero_add]at g0;rw[g0];rfl
 have e1:(O.get! (0+1)).toNat=187:=by rw[g1];rfl
 have e2:(O.get! (0+2)).toNat=191:=by rw[g2];rfl
 rw[e0,e1,e2,if_neg (by decide),if_neg (by omega),if_pos (by omega),if_pos (by decide)]
theorem xq(O:U):(Gh O).p=rR O∧rR O<=O.size∧(rR O=0->(Utf8.decode O 0).1≠65279):=by
 have hp:Lib.hasPrefix O.data.toList Gg.data.toList=true↔Sub O 0 Gg:=zb
 unfold rR
 show(if Lib.hasPrefix O.data.toList Gg.data.toList=true then 3 else 0)=_∧_
 by_cases h:(Utf8.decode O 0).1=65279
 ·obtain⟨h1,h2⟩:=OE h
  have hz:0+3<=O.size:=h2.le
  rw[if_pos (hp.2 h2),if_pos ⟨by omega,h⟩,h1]
  exact⟨rfl,by omega,fun e=>by cases e⟩
 ·rw[if_neg (fun hh=>h (YK (hp.1 hh))),if_neg (fun hh=>h hh.2)]
  exact⟨rfl,Nat.zero_le _,fun _=>h⟩
theorem Ua{O:U}(hs:O.size<=2048)(m:Int):Bd O m (Gh O) (jj m):=by
 obtain⟨b1,b2,b3⟩:=xq O
 have GP:gE O (rR O)=0∧kC O (rR O)=0:=by
  unfold rR
  split
  ·rename_i h
   have n128:¬(O.get! 0).toNat<128:=fun hh=>by have:=h.2;rw[ic hh]at this;simp only at this;omega
   have:=JE n128
   rw[Nat.zero_add]at this
   exact this
  ·exact⟨rfl,rfl⟩
 refine⟨j9 O m hs,rfl,rfl,by rw[b1];exact b2,fun e=>b3 (by rw[←b1];exact e),rfl,Nat.le_refl _,by rw[b1,GP.1];rfl,by rw[b1,GP.2];rfl,fun _=>TU O m,fun _=>⟨⟨rR O,[],b2,?_,by rw[b1];exact .nil,fun x hx=>absurd hx List.not_mem_nil⟩,fun _=>rfl,fun _ _=>rfl⟩⟩
 by_cases h0:rR O=0
 ·exact .inr ⟨rfl,.inl h0.symm⟩
 ·exact .inr ⟨rfl,.inr ⟨rfl,rfl,by omega,rfl,rfl,rfl,rfl⟩⟩
theorem Ub{O:U}(hs:O.size<=2048)(h0:0<O.size)(h:(O.get! 0).toNat=0):(aK O (jj 0)).1.ab≠[]:=by
 have r1:(ak O (aB (jj 0)) (O.size+1) true 0 (aS (jj 0)) []).ch=0:=by
  simp only[ak,if_pos h0,h,show(0:Nat)<128 from by decide,if_true,show¬(0=0∧true=false) from(fun hh=>absurd hh.2 (by decide)),if_false]
  rfl
 have c0:(aa O (stop (jj 0))).ch=0:=r1
 have sk:skip O (aI false) (stop (jj 0))=aa O (stop (jj 0)):=by
  rw[jK O (aI false) rfl,if_pos (by decide),jK O (aI false) rfl,if_neg (by rw[c0];decide)]
 have e:=dB (nl:=false) (WU O 0) hs
 have ep:aK O (jj 0)=gv O false (jj 0):=cR O (jj 0)
 obtain⟨bl,eN⟩:∃bl,(iY O false (jj 0)).get Sc.iN=(A8 O (fun s=>Fin.done s []) (jM O false) (gC bl (aa O (stop (jj 0))))).get Sc.iN:=by
  refine⟨decide (u64 (1+(aa O (stop (jj 0))).aC)>u64 (1+(jj 0).aC))||u64 (1+(jj 0).aL)==1,?_⟩
  unfold iY
  rw[sk]
  rfl
 have hN:(gC bl (aa O (stop (jj 0)))).ch=0:=c0
 have e1:(jM O false (gC bl (aa O (stop (jj 0))))).get Sc.iN= .fP (aa O (error fq (gC bl (aa O (stop (jj 0)))))):=by
  unfold jM
  simp[af.get,fi,hN]
 rw[eN,Bs (by rw[hN];decide) (by rw[hN];decide),e1]at e
 have sC:Pos O (aa O (stop (jj 0))):=(dJ (O:=O) (st:=stop (jj 0)) (Nat.zero_le _)).1
 have a1:=gD fq (gC bl (aa O (stop (jj 0))))
 have a2:=(aR O (error fq (gC bl (aa O (stop (jj 0)))))).len
 have a3:=ru (O:=O) (nl:=false) (s:=aa O (error fq (gC bl (aa O (stop (jj 0)))))) rfl (.inl (dJ (O:=O) (st:=error fq (gC bl (aa O (stop (jj 0))))) sC.n).1) hs
 rw[ep,e]
 intro hn
 have hn:(gv O false (aa O (error fq (gC bl (aa O (stop (jj 0))))))).1.ab=[]:=hn
 rw[hn]at a3
 simp only[List.length_nil]at a3
 omega
theorem Uc{O:U}(hs:O.size<=2048){m:Int}(hm:m=0∨m=1):wD O (iZ O m) (rC O).out∧
 ((rC O).ai=0->(iZ O m).length=(rC O).out.length∧O1 O m (last O m) (rC O).rem)∧((rC O).ai=1->m=0->(last O m).ab≠[]):=by
 have F:=G0 hm (O.size+1) (Gh O) (jj m) (Ua hs m) (by omega)
 obtain⟨L,e,h1,h2,h3,h4⟩:=F [] rfl ⟨Nat.le_refl _,fun i s t h=>by simp at h⟩
 rw[List.nil_append]at h2 h3
 obtain⟨e1,e2⟩:=h1.all hs
 rw[e1,e2]
 refine⟨h2,h3,fun bn UA=> ?_⟩
 subst UA
 by_cases hz:O.size=0∨(O.get! 0).toNat≠0
 ·by_cases hg:rT O (rR O)
  ·exact h4 bn rfl (by rw[(xq O).1];exact hg)
  ·intro hn
   exact hg (GN (m:=0) hs hz (by rw[e2];exact hn))
 ·have hz:O.size≠0∧(O.get! 0).toNat=0:=by omega
  exact qd (j9 O 0 hs) (Ub hs (by omega) hz.2) L e h1
theorem DJ{m m' b0 b1 b2 b3 c1 c2 c3:Nat}(hb:¬((decodeN m b0 b1 b2 b3).1=65533∧(decodeN m b0 b1 b2 b3).2=1))(hm:(decodeN m b0 b1 b2 b3).2<=m')
 (h1:1<(decodeN m b0 b1 b2 b3).2->c1=b1)(h2:2<(decodeN m b0 b1 b2 b3).2->c2=b2)(h3:3<(decodeN m b0 b1 b2 b3).2->c3=b3):decodeN m' b0 c1 c2 c3=decodeN m b0 b1 b2 b3:=by
 unfold decodeN at hb hm h1 h2 h3⊢
 by_cases k0:b0<128
 ·rw[if_pos k0,if_pos k0]
 rw[if_neg k0]at hb hm h1 h2 h3
 rw[if_neg k0,if_neg k0]
 by_cases k1:b0/32=6∧(1<m∧b1/64=2)
 ·rw[if_pos k1]at hb hm h1 h2 h3
  by_cases r:b0%32*64+b1%64>=128
  ·rw[if_pos r]at hb hm h1 h2 h3
   simp only at hm h1
   obtain rfl:=h1 (by decide)
   rw[if_pos k1,if_pos ⟨k1.1,by omega,k1.2.2⟩]
  ·rw[if_neg r]at hb
   exact absurd ⟨rfl,rfl⟩ hb
 rw[if_neg k1]at hb hm h1 h2 h3
 by_cases k2:b0/16=14∧(1<m∧b1/64=2)∧(2<m∧b2/64=2)
 ·have n1:¬(b0/32=6∧(1<m'∧c1/64=2)):=fun h=>by have:=k2.1;have:=h.1;omega
  rw[if_pos k2]at hb hm h1 h2 h3
  rw[if_neg k1,if_pos k2,if_neg n1]
  split at hb
  ·rename_i r
   rw[if_pos r]at hm h1 h2 h3
   simp only at hm h1 h2
   obtain rfl:=h1 (by decide)
   obtain rfl:=h2 (by decide)
   rw[if_pos ⟨k2.1,⟨by omega,k2.2.1.2⟩,by omega,k2.2.2.2⟩]
  ·exact absurd ⟨rfl,rfl⟩ hb
 rw[if_neg k2]at hb hm h1 h2 h3
 by_cases k3:b0/8=30∧(1<m∧b1/64=2)∧(2<m∧b2/64=2)∧(3<m∧b3/64=2)
 ·have n1:¬(b0/32=6∧(1<m'∧c1/64=2)):=fun h=>by have:=k3.1;have:=h.1;omega
  have n2:¬(b0/16=14∧(1<m'∧c1/64=2)∧(2<m'∧c2/64=2)):=fun h=>by have:=k3.1;have:=h.1;omega
  rw[if_pos k3]at hb hm h1 h2 h3
  rw[if_neg k1,if_neg k2,if_pos k3,if_neg n1,if_neg n2]
  split at hb
  ·rename_i r
   rw[if_pos r]at hm h1 h2 h3
   simp only at hm h1 h2 h3
   obtain rfl:=h1 (by decide)
   obtain rfl:=h2 (by decide)
   obtain rfl:=h3 (by decide)
   rw[if_pos ⟨k3.1,⟨by omega,k3.2.1.2⟩,⟨by omega,k3.2.2.1.2⟩,by omega,k3.2.2.2.2⟩]
  ·exact absurd ⟨rfl,rfl⟩ hb
 ·rw[if_neg k3]at hb
  exact absurd ⟨rfl,rfl⟩ hb
structure Mv(s t:U)(p p' n:Nat):Prop where
 le:p+n<=s.size
 Hq:p'+n<=t.size
 get:∀j,j<n->t.get! (p'+j)=s.get! (p+j)
theorem Mv.sh{s t:U}{p p' n:Nat}(h:Mv s t p p' n){j k:Nat}(hj:j+k<=n):Mv s t (p+j) (p'+j) k:=
 ⟨by have:=h.le;omega,by have:=h.Hq;omega,fun i hi=>by rw[Nat.add_assoc,Nat.add_assoc];exact h.get _ (by omega)⟩
theorem Mv.ext{s t:U}{p p' n:Nat}(h:Mv s t p p' n):t.extract p' (p'+n)=s.extract p (p+n):=by
 have h1:=h.le
 have h2:=h.Hq
 refine fx (by rw[aA _ _ _ h2,aA _ _ _ h1];omega) (fun j hj=> ?_)
 rw[aA _ _ _ h2]at hj
 rw[a7 _ _ _ _ h2 (by omega),a7 _ _ _ _ h1 (by omega)]
 exact h.get j (by omega)
theorem Mv.dec{s t:U}{p p' n:Nat}(h:Mv s t p p' n)(hn:0<n)(hw:(Utf8.decode s p).2<=n)(hb:¬((Utf8.decode s p).1=65533∧(Utf8.decode s p).2=1)):Utf8.decode t p'=Utf8.decode s p:=by
 have h2:=h.Hq
 have g0:=h.get 0 hn
 rw[Nat.add_zero,Nat.add_zero]at g0
 rw[decode_at]at hw hb⊢
 rw[decode_at,g0]
 exact DJ hb (by omega) (fun hh=>by rw[h.get 1 (by omega)]) (fun hh=>by rw[h.get 2 (by omega)]) (fun hh=>by rw[h.get 3 (by omega)])
theorem Mv.ch{s t:U}{p p' n:Nat}(h:Mv s t p p' n){r:Int}{w:Nat}(hc:bA s p r w)(hw:w<=n):bA t p' r w:=by
 have Cs:=hc.w
 have h2:=h.Hq
 have g0:=h.get 0 (by omega)
 rw[Nat.add_zero,Nat.add_zero]at g0
 refine⟨by omega,?_⟩
 rw[g0]
 rcases hc.ch with a|⟨a1,a2,a3,a4,a5⟩
 ·exact .inl a
 ·have e:=h.dec (by omega) (by omega) a2
  exact .inr ⟨a1,by rw[e];exact a2,by rw[e];exact a3,by rw[e];exact a4,by rw[e];exact a5⟩
theorem Mv.cl{s t:U}{a b:Nat}{cs:List Int}(hc:Cl s a cs b):∀{p':Nat},Mv s t a p' (b-a)->Cl t p' cs (p'+(b-a)):=by
 induction hc with
 |nil=>intro p' h;rw[Nat.sub_self,Nat.add_zero];exact .nil
 |@cons p w q r cs h1 h2 ih=>
  intro p' h
  have hw:=h1.w
  have hl:=h2.le
  have c1:=h.ch h1 (by omega)
  have c2:=ih (p':=p'+w) (by have:=h.sh (j:=w) (k:=q-(p+w)) (by omega);exact this)
  refine .cons c1 ?_
  rw[show p'+(q-p)=p'+w+(q-(p+w))by omega]
  exact c2
def Ud(t:U)(e:Nat):Prop:=e=t.size∨(e<t.size∧((t.get! e).toNat=32∨(t.get! e).toNat=9∨(t.get! e).toNat=10∨(t.get! e).toNat=13))
theorem Ud.le{t:U}{e:Nat}(h:Ud t e):e<=t.size:=by rcases h with h|h<;>omega
theorem Ud.byte{t:U}{e:Nat}(h:Ud t e):(t.get! e).toNat=0∨(t.get! e).toNat=32∨(t.get! e).toNat=9∨(t.get! e).toNat=10∨(t.get! e).toNat=13:=by
 rcases h with h|h
 ·rw[uc (by omega)];exact .inl rfl
 ·exact .inr h.2
structure YL(s:U)(x:LS)(n:Nat)(cls kind:Int)(y:LS):Prop where
 ai:y.ai=0
 p:y.p=x.p+n
 stop:y.stop=x.p+n
 rem:y.rem=x.rem
 out:∃l c,y.out=x.out++[⟨cls,s.extract x.p (x.p+n),kind,l,c⟩]
 ends:y.ends=(decide (cls=1)||decide (cls=2)||(decide (cls=3)&&c_ (s.extract x.p (x.p+n))))
theorem mI{s:U}{x:LS}(h0:x.ai=0)(n:Nat)(cls kind:Int):YL s x n cls kind (dk s {x with p:=x.p+n} cls kind x.p):=⟨h0,rfl,rfl,rfl,⟨_,_,rfl⟩,rfl⟩
def ZX(s:U)(p n:Nat)(cls kind:Int):Prop:=∀(t:U) (x:LS),x.ai=0->Mv s t p x.p n->Ud t (x.p+n)->YL t x n cls kind (bR t x)
theorem qh{s t:U}{p p' n:Nat}(h:Mv s t p p' n){r:Int}{w:Nat}(hc:bA s p r w)(hw:w<=n):ca t p'=false∧ba t p'=ba s p∧t.get! p'=s.get! p:=by
 have Cs:=hc.w
 obtain⟨a1,a2,a3⟩:=(h.ch hc hw).clear
 obtain⟨b1,b2,b3⟩:=hc.clear
 have g0:=h.get 0 (by omega)
 rw[Nat.add_zero,Nat.add_zero]at g0
 exact⟨a1,by rw[a2,b2],g0⟩
theorem LA{s:U}{p q:Nat}{cs:List Int}(h:Cl s p cs q):q=p∨∃r w ds,bA s p r w∧Cl s (p+w) ds q:=by
 cases h with
 |nil=>exact .inl rfl
 |cons k1 k2=>exact .inr ⟨_,_,_,k1,k2⟩
theorem Ue{t:U}{e:Nat}(he:e<t.size->ko (Utf8.decode t e).1=false){a:Nat}{cs:List Int}(hc:Cl t a cs e):(∀c∈cs,ko c=true)->∀n,t.size<=a+n->bW t n a=e:=by
 induction hc with
 |nil=>
  rename_i p
  intro _ n hn
  cases n with
  |zero=>rfl
  |succ n=>
   rw[bW]
   by_cases hp:p<t.size
   ·rw[if_pos hp,if_neg (by rw[he hp];decide)]
   ·rw[if_neg hp]
 |@cons p w q r cs h1 h2 ih=>
  intro hid n hn
  have hw:=h1.w
  have bz:=h1.lt
  have hr:((Utf8.decode t p).1:Int)=r∧(Utf8.decode t p).2=w:=by
   rcases h1.ch with⟨a1,a2,a3,a4⟩|⟨a1,a2,a3,a4,a5⟩
   ·rw[ic a1];exact⟨a3.symm,a4.symm⟩
   ·exact⟨a4.symm,a5.symm⟩
  cases n with
  |zero=>omega
  |succ n=>
   rw[bW,if_pos bz,hr.1,if_pos (hid r (by simp)),hr.2]
   exact ih he (fun c hc=>hid c (by simp[hc])) n (by omega)
theorem acR{t:U}{e:Nat}(h:Ud t e)(bz:e<t.size):ko (Utf8.decode t e).1=false:=by
 rcases h with h|⟨_,h⟩
 ·omega
 ·rw[ic (by omega)]
  rcases h with h|h|h|h<;>(rw[h];decide+kernel)
theorem Uf{s:U}{p:Nat}{r:Int}{w:Nat}(hc:bA s p r w)(hl:iO r=true)(hp:p<=s.size):
 ZX s p (bW s s.size p-p) (if gY (s.extract p (bW s s.size p))=true then 3 else 1) 0:=by
 obtain⟨cs,c1,c2,c3⟩:=t_ (O:=s) s.size p (by omega) hp
 have hle:=c1.le
 have hid:ko r=true:=by unfold ko;rw[hl];rfl
 have hw:=hc.w
 have Qz:p+w<=bW s s.size p:=by
  rcases LA c1 with hh|⟨r',w',ds,k1,k2⟩
  ·have hr:((Utf8.decode s p).1:Int)=r:=by
    rcases hc.ch with⟨a1,a2,a3,a4⟩|⟨a1,a2,a3,a4,a5⟩
    ·rw[ic a1];exact a3.symm
    ·exact a4.symm
   have:=c3 (by rw[hh];exact hc.lt)
   rw[hh,hr,hid]at this
   cases this
  ·have:=k2.le
   have:=(hc.uniq k1).2
   omega
 intro t x h0 hm bn
 obtain⟨b1,b2,b3⟩:=qh hm hc (by omega)
 have e1:ba s p=r:=hc.clear.2.1
 have ie:=Mv.cl c1 hm
 have amx:=hm.Hq
 have e:bW t t.size x.p=x.p+(bW s s.size p-p):=Ue (fun bz=>acR bn bz) ie c2 _ (by omega)
 unfold bR
 simp only
 rw[if_neg (show¬ca t x.p=true by rw[b1];decide),b2,e1,if_pos hl,e]
 have ex:=hm.ext
 rw[show p+(bW s s.size p-p)=bW s s.size p by omega]at ex
 have:=mI (s:=t) h0 (bW s s.size p-p) (if gY (t.extract x.p (x.p+(bW s s.size p-p)))=true then 3 else 1) 0
 rw[ex]at this⊢
 exact this
theorem qi{s:U}{p:Nat}{a b:UInt8}:Sub s p ⟨#[a,b]⟩↔p+2<=s.size∧s.get! p=a∧s.get! (p+1)=b:=by
 constructor
 ·intro h
  exact⟨h.le,h.get 0 (show 0<2 by decide),h.get 1 (show 1<2 by decide)⟩
 ·rintro⟨h1,h2,h3⟩
  refine⟨h1,fun j hj=> ?_⟩
  have hj:j<2:=hj
  have:j=0∨j=1:=by omega
  rcases this with rfl|rfl
  ·exact h2
  ·exact h3
theorem DK{s t:U}{p p' n:Nat}(hm:Mv s t p p' n)(hn:0<n)(bn:Ud t (p'+n)){a b:UInt8}(hb:b.toNat≠0∧b.toNat≠32∧b.toNat≠9∧b.toNat≠10∧b.toNat≠13)
 (h1:n=1->¬Sub s p ⟨#[a,b]⟩):Sub t p' ⟨#[a,b]⟩↔Sub s p ⟨#[a,b]⟩:=by
 have l1:=hm.le
 have l2:=hm.Hq
 by_cases h2:n=1
 ·subst h2
  refine⟨fun h=> ?_,fun h=>absurd h (h1 rfl)⟩
  have e:=(qi.1 h).2.2
  have:=bn.byte
  rw[e]at this
  omega
 ·have g0:=hm.get 0 (by omega)
  have g1:=hm.get 1 (by omega)
  rw[Nat.add_zero,Nat.add_zero]at g0
  rw[qi,qi,g0,g1]
  exact⟨fun h=>⟨by omega,h.2⟩,fun h=>⟨by omega,h.2⟩⟩
theorem JK{s:U}{x:LS}(hp:x.p<=s.size):bT s x=none↔¬Sub s x.p N1∧¬Sub s x.p Jk:=by
 unfold bT
 simp only
 by_cases h2:Lib.hasPrefix (s.extract x.p s.size).data.toList N1.data.toList=true
 ·rw[if_pos h2]
  exact⟨fun h=>(by cases h),fun h=>absurd ((dv hp).1 h2) h.1⟩
 rw[if_neg h2]
 by_cases hS:Lib.hasPrefix (s.extract x.p s.size).data.toList Jk.data.toList=true
 ·rw[if_pos hS]
  refine⟨fun h=> ?_,fun h=>absurd ((dv hp).1 hS) h.2⟩
  split at h<;>cases h
 ·rw[if_neg hS]
  exact⟨fun _=>⟨fun h=>h2 ((dv hp).2 h),fun h=>hS ((dv hp).2 h)⟩,fun _=>rfl⟩
theorem B4{t:U}{f:Nat}{hex:Bool}{e:Nat}(bn:Ud t e):∀n,fk t f hex n e=e
 |0=>rfl
 |n+1=>by
  rw[fk]
  by_cases hp:e<t.size
  ·rw[if_pos hp]
   simp only
   generalize(if f<e then(t.get! (e-1)).toNat|||32 else 0)=l
   rw[if_neg]
   rcases bn with h|⟨_,h⟩
   ·omega
   ·unfold qt
    rcases h with h|h|h|h<;>(rw[h];intro hh;simp at hh)
  ·rw[if_neg hp]
theorem B5{s t:U}{f f' n:Nat}{hex:Bool}(hm:Mv s t f f' n)(bn:Ud t (f'+n)):∀(N j N':Nat),j<=n->t.size<=f'+j+N'->fk s f hex N (f+j)=f+n->fk t f' hex N' (f'+j)=f'+n
 |0,j,N',hj,hn,h=>by
  have h:f+j=f+n:=h
  obtain rfl:j=n:=by omega
  exact B4 bn _
 |N+1,j,N',hj,hn,h=>by
  by_cases UQ:j=n
  ·subst UQ
   exact B4 bn _
  have l1:=hm.le
  have l2:=hm.Hq
  rw[fk,if_pos (by omega)]at h
  cases N' with
  |zero=>omega
  |succ N'=>
   rw[fk,if_pos (by omega)]
   have g:=hm.get j (by omega)
   have el:(if f'<f'+j then(t.get! (f'+j-1)).toNat|||32 else 0)=(if f<f+j then(s.get! (f+j-1)).toNat|||32 else 0):=by
    by_cases j0:j=0
    ·subst j0
     rw[if_neg (by omega),if_neg (by omega)]
    ·have:=hm.get (j-1) (by omega)
     rw[if_pos (by omega),if_pos (by omega),show f'+j-1=f'+(j-1)by omega,show f+j-1=f+(j-1)by omega,this]
   simp only[el,g]at h⊢
   generalize(if f<f+j then(s.get! (f+j-1)).toNat|||32 else 0)=l at h⊢
   split at h
   ·rename_i hc
    rw[if_pos hc]
    exact B5 hm bn N (j+1) N' (by omega) (by omega) h
   ·omega
theorem G3{s:U}{p:Nat}(hp:p<=s.size):cD (s.extract p s.size)=true↔Sub s p ⟨#[48,120]⟩∨Sub s p ⟨#[48,88]⟩:=by
 unfold cD
 rw[Bool.or_eq_true]
 exact or_congr (dv (w:=⟨#[48,120]⟩) hp) (dv (w:=⟨#[48,88]⟩) hp)
theorem OF{s:U}{i:Nat}(h:(s.get! i).toNat≠0):i<s.size:=by
 by_cases hh:i<s.size
 ·exact hh
 ·rw[uc (by omega)]at h
  exact absurd rfl h
abbrev Ao(s:U)(p:Nat):Prop:=qt (s.get! p)=true∨((s.get! p).toNat=46∧p+1<s.size∧qt (s.get! (p+1))=true)
theorem qj{b:UInt8}:qt b=true↔48<=b.toNat∧b.toNat<=57:=by
 unfold qt
 rw[Bool.and_eq_true,decide_eq_true_iff,decide_eq_true_iff]
theorem LB{s t:U}{p p' n:Nat}(hm:Mv s t p p' n)(hn:0<n)(bn:Ud t (p'+n))(h1:n=1->¬((s.get! p).toNat=46∧p+1<s.size∧qt (s.get! (p+1))=true)):Ao t p'↔Ao s p:=by
 have l1:=hm.le
 have l2:=hm.Hq
 have g0:=hm.get 0 hn
 rw[Nat.add_zero,Nat.add_zero]at g0
 unfold Ao
 rw[g0]
 refine or_congr Iff.rfl ?_
 by_cases h2:n=1
 ·subst h2
  refine⟨fun h=> ?_,fun h=>absurd h (h1 rfl)⟩
  have:=bn.byte
  have:=qj.1 h.2.2
  omega
 ·have g1:=hm.get 1 (by omega)
  rw[g1]
  exact⟨fun h=>⟨h.1,by omega,h.2.2⟩,fun h=>⟨h.1,by omega,h.2.2⟩⟩
theorem YM{s:U}{p:Nat}{r:Int}{w:Nat}(hc:bA s p r w)(hl:¬iO r=true)(hp:p<=s.size)(hd:Ao s p)
 (hk:0<=cE (s.extract p (fk s p (cD (s.extract p s.size)) s.size p))):
 0<fk s p (cD (s.extract p s.size)) s.size p-p∧ZX s p (fk s p (cD (s.extract p s.size)) s.size p-p) 2 (cE (s.extract p (fk s p (cD (s.extract p s.size)) s.size p))):=by
 obtain⟨a1,a2,a3⟩:=pF (O:=s) (f:=p) (hex:=cD (s.extract p s.size)) s.size p (by omega) hp
 generalize he:fk s p (cD (s.extract p s.size)) s.size p=e at*
 have sC:p<e:=by
  by_cases h0:p=e
  ·have:(s.extract p e).size=0:=by rw[aA _ _ _ a2];omega
   unfold cE at hk
   rw[if_pos this]at hk
   exact absurd hk (by decide)
  ·omega
 refine⟨by omega,fun t x h0 hm bn=> ?_⟩
 have vH:(s.get! p).toNat<128:=by
  rcases hd with hd|hd
  ·have:=qj.1 hd;omega
  ·omega
 have Cs:w=1:=by
  rcases hc.ch with⟨_,_,_,a⟩|⟨a,_⟩
  ·exact a
  ·exact absurd vH a
 obtain⟨b1,b2,b3⟩:=qh hm hc (by omega)
 have e1:ba s p=r:=hc.clear.2.1
 have Ug:e=p+1->∀b:UInt8,s.get! (p+1)=b->mh b.toNat=true->False:=fun h b hb hn=>by
  have bz:p+1<s.size:=OF (by
   rw[hb]
   intro hz
   rw[hz]at hn
   exact absurd hn (by decide))
  have:=a3 (by omega)
  rw[h,hb,hn]at this
  cases this
 have hex:cD (t.extract x.p t.size)=cD (s.extract p s.size):=by
  have l2:=hm.Hq
  refine Bool.eq_iff_iff.2 ?_
  rw[G3 (by omega),G3 hp]
  exact or_congr (DK hm (by omega) bn (by decide) (fun h1 hh=>Ug (by omega) _ (qi.1 hh).2.2 (by decide))) (DK hm (by omega) bn (by decide) (fun h1 hh=>Ug (by omega) _ (qi.1 hh).2.2 (by decide)))
 have wm:Ao t x.p:=(LB hm (by omega) bn (fun h1 hh=>by
  have hdg:=qj.1 hh.2.2
  refine Ug (by omega) _ rfl ?_
  unfold mh
  simp only[Bool.or_eq_true,Bool.and_eq_true,decide_eq_true_eq]
  exact .inl (.inr hdg))).2 hd
 have aiH:fk t x.p (cD (t.extract x.p t.size)) t.size x.p=x.p+(e-p):=by
  rw[hex]
  have:=B5 (f:=p) (f':=x.p) (hex:=cD (s.extract p s.size)) hm bn s.size 0 t.size (by omega) (by omega) (by rw[Nat.add_zero,he];omega)
  rw[Nat.add_zero]at this
  exact this
 have ex:=hm.ext
 rw[show p+(e-p)=e by omega]at ex
 unfold bR
 simp only
 rw[if_neg (show¬ca t x.p=true by rw[b1];decide),b2,e1,if_neg hl,if_pos wm]
 unfold jT
 simp only
 rw[aiH,ex,if_neg]
 ·have:=mI (s:=t) h0 (e-p) 2 (cE (s.extract p e))
  exact this
 ·rintro(hh|⟨h1,h2⟩)
  ·omega
  ·rcases bn with hs|⟨_,hs⟩
   ·omega
   ·rw[ic (by omega)]at h2
    simp only at h2
    omega
theorem af2{w:U}(h:w∈jS):wA w=true:=by
 unfold wA
 rw[List.any_eq_true]
 exact⟨w,h,by simp⟩
theorem Uh{s:U}{p:Nat}{r:Int}{w:Nat}(hc:bA s p r w)(hl:¬iO r=true)(hd:¬Ao s p)(hq:¬((s.get! p).toNat=34∨(s.get! p).toNat=39))(vX:¬(s.get! p).toNat=96)(Ly:¬(s.get! p).toNat=59)
 {v:U}(hv:v∈jS)(hs:Sub s p v):0<v.size∧ZX s p v.size 3 0:=by
 obtain⟨z0,z1⟩:=lD hv
 refine⟨z0,fun t x h0 hm bn=> ?_⟩
 have g0:=hs.get 0 z0
 rw[Nat.add_zero]at g0
 have hb:=(z1 0 z0).hi
 rw[←g0]at hb
 have Cs:w=1:=by
  rcases hc.ch with⟨_,_,_,a⟩|⟨a,_⟩
  ·exact a
  ·exact absurd hb a
 have l1:=hm.le
 have l2:=hm.Hq
 obtain⟨b1,b2,b3⟩:=qh hm hc (by omega)
 have e1:ba s p=r:=hc.clear.2.1
 have Z3:¬Ao t x.p:=fun hh=>hd ((LB hm z0 bn (fun _ hh=>hd (.inr hh))).1 hh)
 have ht:Sub t x.p v:=⟨l2,fun j hj=>(hm.get j hj).trans (hs.get j hj)⟩
 unfold bR
 simp only
 rw[if_neg (show¬ca t x.p=true by rw[b1];decide),b2,e1,if_neg hl,if_neg Z3,b3,if_neg hq,if_neg vX,if_neg Ly]
 unfold mb
 cases hf:(jS.find? fun w=>Lib.hasPrefix (t.extract x.p t.size).data.toList w.data.toList)with
 |none=>
  rw[List.find?_eq_none]at hf
  exact absurd ((dv (by omega)).2 ht) (hf v hv)
 |some u=>
  obtain⟨u1,u2,u3⟩:=ua (by omega) hf
  have hle:=u3 v (af2 hv) ht
  obtain⟨y0,y1⟩:=lD u1
  have eJ:u.size=v.size:=by
   by_cases hgt:v.size<u.size
   ·have:=u2.get v.size hgt
    have zT:=(y1 v.size hgt).bl false
    have OV:=(y1 v.size hgt).lo
    rw[←this]at zT OV
    have hb:=bn.byte
    rcases hb with hb|hb|hb|hb|hb
    ·omega
    all_goals (rw[hb]at zT;exact absurd zT (by decide))
   ·omega
  obtain rfl:u=v:=fx eJ (fun j hj=>by rw[←u2.get j hj,ht.get j (by omega)])
  simp only
  exact mI (s:=t) h0 u.size 3 0
theorem Ui{s:U}{p:Nat}(hp:p<s.size)(Ly:(s.get! p).toNat=59):ZX s p 1 4 0:=by
 intro t x h0 hm bn
 have hc:bA s p 59 1:=by
  have:=cM hp (by omega) (by omega)
  rw[Ly]at this
  exact this
 obtain⟨b1,b2,b3⟩:=qh hm hc (by omega)
 have e1:ba s p=59:=hc.clear.2.1
 have hd:¬Ao t x.p:=by
  rintro(h|h)
  ·have:=qj.1 h
   rw[b3]at this
   omega
  ·rw[b3]at h
   omega
 unfold bR
 simp only
 rw[if_neg (show¬ca t x.p=true by rw[b1];decide),b2,e1,if_neg (show¬iO 59=true by decide+kernel),if_neg hd,b3,if_neg (by omega),if_neg (by omega),if_pos Ly]
 exact mI (s:=t) h0 1 4 0
theorem OG(S:U)(size base digits:Nat):dn S size base digits=0∨dn S size base digits=size:=by
 unfold dn
 generalize(if base=8 then g_ else fT)=B
 split
 ·exact .inl rfl
 ·split
  ·exact .inl rfl
  ·split
   ·exact .inl rfl
   ·exact .inr rfl
theorem JL{s t:U}{p p' n size base digits:Nat}(hm:Mv s t p p' n)(eJ:size<=n):dn (t.extract p' t.size) size base digits=dn (s.extract p s.size) size base digits:=by
 have l1:=hm.le
 have l2:=hm.Hq
 have s1:=aA s p s.size (Nat.le_refl _)
 have s2:=aA t p' t.size (Nat.le_refl _)
 have e:(t.extract p' t.size).extract digits size=(s.extract p s.size).extract digits size:=by
  refine fx (by rw[aA _ _ _ (by omega),aA _ _ _ (by omega)]) (fun j hj=> ?_)
  rw[aA _ _ _ (by omega)]at hj
  rw[a7 _ _ _ _ (by omega) hj,a7 _ _ _ _ (by omega) hj,eD (by omega),eD (by omega)]
  exact hm.get _ (by omega)
 unfold dn
 rw[if_neg (show¬(t.extract p' t.size).size<size by omega),if_neg (show¬(s.extract p s.size).size<size by omega),e]
theorem OH{s t:U}{p p' n:Nat}{q:Int}(hm:Mv s t p p' n)(h2:2<=n)(h0:dR (s.extract p s.size) q≠0)(hk:(dR (s.extract p s.size) q).toNat<=n):dR (t.extract p' t.size) q=dR (s.extract p s.size) q:=by
 have l1:=hm.le
 have l2:=hm.Hq
 have g1:(t.extract p' t.size).get! 1=(s.extract p s.size).get! 1:=by
  rw[eD (by omega),eD (by omega)]
  exact hm.get 1 (by omega)
 have tl:∀size base digits,dn (s.extract p s.size) size base digits≠0->(dn (s.extract p s.size) size base digits).toNat<=n->dn (t.extract p' t.size) size base digits=dn (s.extract p s.size) size base digits:=fun size base digits ha hb=>by
  rcases OG (s.extract p s.size) size base digits with e|e
  ·exact absurd e ha
  ·rw[e]at hb
   exact JL hm (by omega)
 unfold dR at h0 hk⊢
 rw[g1]
 split
 ·rfl
 ·rename_i k1
  rw[if_neg k1]at h0 hk
  split
  ·rename_i k2
   rw[if_pos k2]at h0 hk
   exact tl _ _ _ h0 hk
  ·rename_i k2
   rw[if_neg k2]at h0 hk
   split
   ·rename_i k3
    rw[if_pos k3]at h0 hk
    exact tl _ _ _ h0 hk
   ·rename_i k3
    rw[if_neg k3]at h0 hk
    split
    ·rename_i k4
     rw[if_pos k4]at h0 hk
     exact tl _ _ _ h0 hk
    ·rename_i k4
     rw[if_neg k4]at h0 hk
     split
     ·rename_i k5
      rw[if_pos k5]at h0 hk
      exact tl _ _ _ h0 hk
     ·rfl
theorem mm{s:U}{q:Int}{f:Nat}(hq:q=34∨q=39){n c:Nat}{X:LS}(h0:X.ai=0)(h1:1<=X.p)(h2:X.p<=s.size)(h3:s.size+1<=X.p+n)(h:(bE s q f n c X).ai=0):
 ∃e,X.p<=e∧e<s.size∧bE s q f n c X=dk s {X with p:=e+1} 2 (if q=34 then 4 else 3) f:=by
 rcases mi (f:=f) hq n c X h0 h1 h2 h3 with⟨cs,k,e,i1,i2,i3,i4,i5,i6⟩|⟨i1,_⟩
 ·have:=i2.le
  exact⟨e,by omega,i3.lt,i6⟩
 ·rw[h]at i1;cases i1
theorem oy{s t:U}{p p' n:Nat}{q:Int}{f f':Nat}(hq:q=34∨q=39)(hm:Mv s t p p' n):∀(N c j:Nat) (X X':LS) (N':Nat),1<=j->j<=n->X.ai=0->X'.ai=0->X.p=p+j->X'.p=p'+j->s.size+1<=X.p+N->t.size+1<=X'.p+N'->
 (bE s q f N c X).ai=0->(bE s q f N c X).p=p+n->bE t q f' N' c X'=dk t {X' with p:=p'+n} 2 (if q=34 then 4 else 3) f'
 |0,c,j,X,X',N',hj,UQ,h0,OI,hp,Yt,hn,He,hs,he=>by have:=hm.le;omega
 |N+1,c,j,X,X',N',hj,UQ,h0,OI,hp,Yt,hn,He,hs,he=>by
  have l1:=hm.le
  have l2:=hm.Hq
  obtain⟨e0,e1,e2,e3⟩:=mm hq h0 (by omega) (by omega) hn hs
  have he0:e0+1=p+n:=by
   rw[e3]at he
   exact he
  clear e3
  rw[bE,if_pos h0]at hs he
  by_cases hb:ca s X.p=true
  ·rw[if_pos hb]at hs;cases hs
  rw[if_neg hb]at hs he
  have bz:X.p<s.size:=by omega
  have hc:=kD bz (by simpa using hb) (fun e=>by omega)
  have hw:=hc.w
  by_cases gI:aN s X.p=0∨ba s X.p=10
  ·rw[if_pos gI]at hs;cases hs
  rw[if_neg gI]at hs he
  have mj:∀k,j+k<=n->Mv s t X.p X'.p k:=fun k hk=>by rw[hp,Yt];exact hm.sh hk
  have hN:∃M,N'=M+1:=⟨N'-1,by omega⟩
  obtain⟨M,rfl⟩:=hN
  rw[bE,if_pos OI]
  by_cases T6:ba s X.p=q
  ·have rO:aN s X.p=1:=(hc.byte (by omega)).2
   obtain⟨c1,c2,c3⟩:=((mj 1 (by omega)).ch hc (by omega)).clear
   rw[if_pos T6]at hs he
   rw[if_neg (show¬ca t X'.p=true by rw[c1];decide),if_neg (show¬(aN t X'.p=0∨ba t X'.p=10)by rw[c2,c3];exact gI),c2,if_pos T6]
   rcases hq with rfl|rfl
   ·rw[if_pos rfl]at he
    have he:X.p+1=p+n:=he
    rw[if_pos rfl,if_pos rfl,show X'.p+1=p'+n by omega]
   ·rw[if_neg (show¬(39:Int)=34 by decide)]at he hs
    rw[if_neg (show¬(39:Int)=34 by decide),if_neg (show¬(39:Int)=34 by decide)]
    by_cases Ay:c=1
    ·rw[if_pos Ay]at he
     have he:X.p+1=p+n:=he
     rw[if_pos Ay,show X'.p+1=p'+n by omega]
    ·rw[if_neg Ay]at hs
     cases hs
  rw[if_neg T6]at hs he
  by_cases O2:ba s X.p=92
  ·rw[if_pos O2]at hs he
   have rO:aN s X.p=1:=(hc.byte (by omega)).2
   by_cases pJ:dR (s.extract X.p s.size) q=0
   ·rw[if_pos pJ]at hs;cases hs
   rw[if_neg pJ]at hs he
   obtain⟨ds,d1,d2,d3,d4,d5⟩:=GU bz hq pJ
   obtain⟨e4,e5,e6,e7⟩:=mm (X:={X with p:=X.p+(dR (s.extract X.p s.size) q).toNat}) hq h0 (by show 1<=X.p+_;omega) d5 (by show _<=X.p+_+N;omega) hs
   have he4:e4+1=p+n:=by
    rw[e7]at he
    exact he
   have e5:X.p+(dR (s.extract X.p s.size) q).toNat<=e4:=e5
   obtain⟨c1,c2,c3⟩:=((mj 1 (by omega)).ch hc (by omega)).clear
   have em:=OH (mj (n-j) (by omega)) (by omega) pJ (by omega)
   rw[if_neg (show¬ca t X'.p=true by rw[c1];decide),if_neg (show¬(aN t X'.p=0∨ba t X'.p=10)by rw[c2,c3];exact gI),c2,if_neg T6,if_pos O2,em,if_neg pJ]
   exact oy hq hm N (c+1) (j+(dR (s.extract X.p s.size) q).toNat) {X with p:=X.p+(dR (s.extract X.p s.size) q).toNat} {X' with p:=X'.p+(dR (s.extract X.p s.size) q).toNat} M (by omega) (by omega) h0 OI (by show X.p+_=_;omega) (by show X'.p+_=_;omega) (by show _<=X.p+_+N;omega) (by show _<=X'.p+_+M;omega) hs he
  ·rw[if_neg O2]at hs he
   obtain⟨e4,e5,e6,e7⟩:=mm (X:={X with p:=X.p+aN s X.p}) hq h0 (by show 1<=X.p+_;omega) (by show X.p+aN s X.p<=_;omega) (by show _<=X.p+aN s X.p+N;omega) hs
   have he4:e4+1=p+n:=by
    rw[e7]at he
    exact he
   have e5:X.p+aN s X.p<=e4:=e5
   obtain⟨c1,c2,c3⟩:=((mj (aN s X.p) (by omega)).ch hc (by omega)).clear
   rw[if_neg (show¬ca t X'.p=true by rw[c1];decide),if_neg (show¬(aN t X'.p=0∨ba t X'.p=10)by rw[c2,c3];exact gI),c2,if_neg T6,if_neg O2,c3]
   exact oy hq hm N (c+1) (j+aN s X.p) {X with p:=X.p+aN s X.p} {X' with p:=X'.p+aN s X.p} M (by omega) (by omega) h0 OI (by show X.p+_=_;omega) (by show X'.p+_=_;omega) (by show _<=X.p+aN s X.p+N;omega) (by show _<=X'.p+aN s X.p+M;omega) hs he
theorem zH{s:U}{x:LS}(h0:x.ai=0){q:Int}(hq:q=34∨q=39)(hc:bA s x.p q 1)(h:(bE s q x.p s.size 0 {x with p:=x.p+1}).ai=0):
 ∃n,0<n∧x.p+n<=s.size∧YL s x n 2 (if q=34 then 4 else 3) (bE s q x.p s.size 0 {x with p:=x.p+1})∧ZX s x.p n 2 (if q=34 then 4 else 3):=by
 have bz:=hc.lt
 obtain⟨e0,e1,e2,e3⟩:=mm (X:={x with p:=x.p+1}) (f:=x.p) hq h0 (by show 1<=x.p+1;omega) (by show x.p+1<=_;omega) (by show _<=x.p+1+s.size;omega) h
 have e1:x.p+1<=e0:=e1
 refine⟨e0+1-x.p,by omega,by omega,?_,fun t x' OI hm bn=> ?_⟩
 ·rw[e3]
  have:=mI (s:=s) h0 (e0+1-x.p) 2 (if q=34 then 4 else 3)
  rw[show x.p+(e0+1-x.p)=e0+1 by omega]at this
  exact this
 ·obtain⟨b1,b2,b3⟩:=qh hm hc (by omega)
  have l2:=hm.Hq
  have e4:ba s x.p=q:=hc.clear.2.1
  have DP:((s.get! x.p).toNat:Int)=q:=(hc.byte (by omega)).1.symm
  have hqb:(s.get! x.p).toNat=34∨(s.get! x.p).toNat=39:=by omega
  have hd:¬Ao t x'.p:=by
   rintro(h|h)
   ·have:=qj.1 h
    rw[b3]at this
    omega
   ·rw[b3]at h
    omega
  have hlr:¬iO q=true:=by rcases hq with rfl|rfl<;>decide+kernel
  have hmv:=oy (f:=x.p) (f':=x'.p) hq hm s.size 0 1 {x with p:=x.p+1} {x' with p:=x'.p+1} t.size (by omega) (by omega) h0 OI rfl rfl (by show _<=x.p+1+s.size;omega) (by show _<=x'.p+1+t.size;omega) h (by rw[e3];show e0+1=_;omega)
  unfold bR
  simp only
  rw[if_neg (show¬ca t x'.p=true by rw[b1];decide),b2,e4,if_neg hlr,if_neg hd,b3,if_pos hqb,DP,hmv]
  exact mI (s:=t) OI _ 2 (if q=34 then 4 else 3)
theorem qk(s:U)(x:LS)(n:Nat):(br s x n).p=x.p+n∧(br s x n).ai=x.ai∧(br s x n).out=x.out∧(br s x n).rem=x.rem:=by
 unfold br
 split<;>exact⟨rfl,rfl,rfl,rfl⟩
theorem JM{s:U}{f:Nat}:∀(N:Nat) (X:LS),X.p<=(eZ s f N X).p
 |0,X=>Nat.le_refl _
 |N+1,X=>by
  have h1:=(qk s X (aN s X.p)).1
  rw[eZ]
  split
  ·exact Nat.le_refl _
  ·split
   ·show X.p<=(br s X (aN s X.p)).p
    omega
   ·have:=JM (s:=s) (f:=f) N (br s X (aN s X.p))
    omega
theorem B6{s t:U}{p p' n:Nat}{f f':Nat}(hm:Mv s t p p' n):∀(N j:Nat) (X X':LS) (N':Nat),1<=j->j<=n->X.ai=0->X'.ai=0->X.p=p+j->X'.p=p'+j->s.size+1<=X.p+N->t.size+1<=X'.p+N'->
 (eZ s f N X).ai=0->(eZ s f N X).p=p+n->(∃Y,Y.ai=0∧Y.p=p+n∧Y.out=X.out∧Y.rem=X.rem∧eZ s f N X=dk s Y 2 4 f)∧(∃Y,Y.ai=0∧Y.p=p'+n∧Y.out=X'.out∧Y.rem=X'.rem∧eZ t f' N' X'=dk t Y 2 4 f')
 |0,j,X,X',N',hj,UQ,h0,OI,hp,Yt,hn,He,hs,he=>by have:=hm.le;omega
 |N+1,j,X,X',N',hj,UQ,h0,OI,hp,Yt,hn,He,hs,he=>by
  have l1:=hm.le
  have l2:=hm.Hq
  rw[eZ]at hs he⊢
  by_cases hb:ca s X.p=true∨aN s X.p=0
  ·rw[if_pos hb]at hs;cases hs
  rw[if_neg hb]at hs he⊢
  obtain⟨cz,fm⟩:=not_or.1 hb
  have bz:X.p<s.size:=by
   by_cases hh:X.p<s.size
   ·exact hh
   ·unfold aN at fm
    rw[if_neg hh]at fm
    exact absurd rfl fm
  have hc:=kD bz (by simpa using cz) (fun e=>by omega)
  have hw:=hc.w
  have mj:∀k,j+k<=n->Mv s t X.p X'.p k:=fun k hk=>by rw[hp,Yt];exact hm.sh hk
  obtain⟨o1,o2,o3,o4⟩:=qk s X (aN s X.p)
  have hwn:j+aN s X.p<=n:=by
   split at he
   ·have he:(br s X (aN s X.p)).p=p+n:=he
    omega
   ·have:=JM (s:=s) (f:=f) N (br s X (aN s X.p))
    omega
  have hN:∃M,N'=M+1:=⟨N'-1,by omega⟩
  obtain⟨M,rfl⟩:=hN
  obtain⟨c1,c2,c3⟩:=((mj (aN s X.p) hwn).ch hc (Nat.le_refl _)).clear
  obtain⟨q1,q2,q3,q4⟩:=qk t X' (aN s X.p)
  rw[eZ,if_neg (show¬(ca t X'.p=true∨aN t X'.p=0)by rw[c1,c3];rintro(h|h);exact absurd h (by decide);exact fm h),c2,c3]
  by_cases vX:ba s X.p=96
  ·rw[if_pos vX]at he⊢
   have he:(br s X (aN s X.p)).p=p+n:=he
   rw[if_pos vX]
   exact⟨⟨_,by omega,he,o3,o4,rfl⟩,⟨_,by omega,by omega,q3,q4,rfl⟩⟩
  ·rw[if_neg vX]at hs he⊢
   rw[if_neg vX]
   obtain⟨⟨Y,y1,y2,y3,y4,y5⟩,⟨Z,z1,z2,z3,z4,z5⟩⟩:=B6 (f:=f) (f':=f') hm N (j+aN s X.p) (br s X (aN s X.p)) (br t X' (aN s X.p)) M (by omega) hwn (by omega) (by omega) (by omega) (by omega) (by omega) (by omega) hs he
   exact⟨⟨Y,y1,y2,y3.trans o3,y4.trans o4,y5⟩,⟨Z,z1,z2,z3.trans q3,z4.trans q4,z5⟩⟩
theorem YN{s:U}{p n:Nat}(h:p+n<=s.size):Mv s s p p n:=⟨h,h,fun j hj=>rfl⟩
theorem LC{s:U}{x Y:LS}{n:Nat}(h1:Y.ai=0)(h2:Y.p=x.p+n)(h3:Y.out=x.out)(h4:Y.rem=x.rem)(l:Nat)(c:Int):YL s x n 2 4 {dk s Y 2 4 x.p with out:=K0 (dk s Y 2 4 x.p).out l c}:=by
 refine⟨h1,h2,h2,h4,⟨l,c,?_⟩,?_⟩
 ·show K0 (Y.out++[⟨2,s.extract x.p Y.p,4,Y.line,(x.p:Int)-Y.st+1⟩]) l c=_
  unfold K0
  rw[h3,h2]
  simp
 ·rfl
theorem YO{s:U}{x:LS}(h0:x.ai=0)(hc:bA s x.p 96 1)(h:(eZ s x.p s.size {x with p:=x.p+1}).ai=0)(l:Nat)(c:Int):
 ∃n,0<n∧x.p+n<=s.size∧YL s x n 2 4 {eZ s x.p s.size {x with p:=x.p+1}with out:=K0 (eZ s x.p s.size {x with p:=x.p+1}).out l c}∧ZX s x.p n 2 4:=by
 have bz:=hc.lt
 have Qz:=JM (s:=s) (f:=x.p) s.size {x with p:=x.p+1}
 have Qz:x.p+1<=(eZ s x.p s.size {x with p:=x.p+1}).p:=Qz
 have hle:(eZ s x.p s.size {x with p:=x.p+1}).p<=s.size:=by
  have key:∀(N:Nat) (X:LS),X.p<=s.size->(eZ s x.p N X).p<=s.size:=by
   intro N
   induction N with
   |zero=>intro X hX;exact hX
   |succ N ih=>
    intro X hX
    have h1:=(qk s X (aN s X.p)).1
    have h2:X.p+aN s X.p<=s.size:=by
     by_cases hh:X.p<s.size
     ·unfold aN;rw[if_pos hh];exact km s X.p hh
     ·unfold aN;rw[if_neg hh];exact hX
    rw[eZ]
    split
    ·exact hX
    ·split
     ·show(br s X (aN s X.p)).p<=_
      omega
     ·exact ih _ (by omega)
  exact key _ _ bz
 obtain⟨n,hn⟩:∃n,(eZ s x.p s.size {x with p:=x.p+1}).p=x.p+n:=⟨(eZ s x.p s.size {x with p:=x.p+1}).p-x.p,by omega⟩
 have step:∀(t:U) (x':LS),x'.ai=0->Mv s t x.p x'.p n->(∃Y,Y.ai=0∧Y.p=x.p+n∧Y.out=x.out∧Y.rem=x.rem∧eZ s x.p s.size {x with p:=x.p+1}=dk s Y 2 4 x.p)∧(∃Y,Y.ai=0∧Y.p=x'.p+n∧Y.out=x'.out∧Y.rem=x'.rem∧eZ t x'.p t.size {x' with p:=x'.p+1}=dk t Y 2 4 x'.p):=fun t x' OI hm=>by
  have l2:=hm.Hq
  exact B6 (f:=x.p) (f':=x'.p) hm s.size 1 {x with p:=x.p+1} {x' with p:=x'.p+1} t.size (by omega) (by omega) h0 OI rfl rfl (by show _<=x.p+1+s.size;omega) (by show _<=x'.p+1+t.size;omega) h hn
 obtain⟨⟨Y,y1,y2,y3,y4,y5⟩,_⟩:=step s x h0 (YN (by omega))
 refine⟨n,by omega,by omega,?_,fun t x' OI hm bn=> ?_⟩
 ·rw[y5]
  exact LC y1 y2 y3 y4 l c
 ·obtain⟨_,⟨Z,z1,z2,z3,z4,z5⟩⟩:=step t x' OI hm
  obtain⟨b1,b2,b3⟩:=qh hm hc (by omega)
  have e4:ba s x.p=96:=hc.clear.2.1
  have DP:(s.get! x.p).toNat=96:=by have:=(hc.byte (by decide)).1;omega
  have hd:¬Ao t x'.p:=by
   rintro(h|h)
   ·have:=qj.1 h
    rw[b3]at this
    omega
   ·rw[b3]at h
    omega
  unfold bR
  simp only
  rw[if_neg (show¬ca t x'.p=true by rw[b1];decide),b2,e4,if_neg (show¬iO 96=true by decide+kernel),if_neg hd,b3,if_neg (by omega),if_pos DP,z5,if_pos (show(dk t Z 2 4 x'.p).ai=0 from z1)]
  exact LC z1 z2 z3 z4 _ _
theorem Uj{s:U}{x:LS}(h0:x.ai=0)(hp:x.p<s.size)(b0:x.p=0->(Utf8.decode s 0).1≠65279)(h:(bR s x).ai=0):
 ∃n cls kind,0<n∧x.p+n<=s.size∧(cls=1∨cls=2∨cls=3∨(cls=4∧s.extract x.p (x.p+n)=⟨#[59]⟩))∧YL s x n cls kind (bR s x)∧ZX s x.p n cls kind:=by
 unfold bR at h⊢
 simp only at h⊢
 by_cases hb:ca s x.p=true
 ·rw[if_pos hb]at h;cases h
 rw[if_neg hb]at h⊢
 have hc:=kD hp (by simpa using hb) b0
 have hw:=hc.w
 by_cases hl:iO (ba s x.p)=true
 ·rw[if_pos hl]
  obtain⟨cs,c1,c2,c3⟩:=t_ (O:=s) s.size x.p (by omega) (by omega)
  have ie:=c1.le2 (by omega)
  have hm:=Uf hc hl (by omega)
  have Qz:x.p+1<=bW s s.size x.p:=by
   rcases LA c1 with hh|⟨r',w',ds,k1,k2⟩
   ·have hr:((Utf8.decode s x.p).1:Int)=ba s x.p:=by unfold ba;rw[if_pos hp]
    have:=c3 (by rw[hh];exact hp)
    rw[hh,hr]at this
    unfold ko at this
    rw[hl]at this
    cases this
   ·have:=k2.le
    have:=k1.w
    omega
  refine⟨bW s s.size x.p-x.p,_,0,by omega,by omega,?_,?_,hm⟩
  ·split
   ·exact .inr (.inr (.inl rfl))
   ·exact .inl rfl
  ·have:=mI (s:=s) h0 (bW s s.size x.p-x.p) (if gY (s.extract x.p (bW s s.size x.p))=true then 3 else 1) 0
   rw[show x.p+(bW s s.size x.p-x.p)=bW s s.size x.p by omega]at this
   exact this
 rw[if_neg hl]at h⊢
 by_cases hd:qt (s.get! x.p)=true∨((s.get! x.p).toNat=46∧x.p+1<s.size∧qt (s.get! (x.p+1))=true)
 ·rw[if_pos hd]at h⊢
  unfold jT at h⊢
  simp only at h⊢
  split at h
  ·cases h
  ·rename_i hk
   rw[if_neg hk]
   obtain⟨k1,k2⟩:=not_or.1 hk
   obtain⟨m1,m2⟩:=YM hc hl (by omega) hd (by omega)
   obtain⟨a1,a2,a3⟩:=pF (O:=s) (f:=x.p) (hex:=cD (s.extract x.p s.size)) s.size x.p (by omega) (by omega)
   refine⟨_,_,_,m1,by omega,.inr (.inl rfl),?_,m2⟩
   have:=mI (s:=s) h0 (fk s x.p (cD (s.extract x.p s.size)) s.size x.p-x.p) 2 (cE (s.extract x.p (fk s x.p (cD (s.extract x.p s.size)) s.size x.p)))
   rw[show x.p+(fk s x.p (cD (s.extract x.p s.size)) s.size x.p-x.p)=fk s x.p (cD (s.extract x.p s.size)) s.size x.p by omega]at this
   exact this
 rw[if_neg hd]at h⊢
 have hr8:∀k:Nat,k<128->k≠0->(s.get! x.p).toNat=k->bA s x.p (k:Int) 1:=fun k k1 k0 e=>by
  have:=cM hp (by omega) (by omega)
  rw[e]at this;exact this
 by_cases hq:(s.get! x.p).toNat=34∨(s.get! x.p).toNat=39
 ·rw[if_pos hq]at h⊢
  rcases hq with hq|hq
  ·rw[hq]at h⊢
   obtain⟨n,n1,n2,n3,n4⟩:=zH (q:=34) h0 (.inl rfl) (hr8 34 (by decide) (by decide) hq) h
   exact⟨n,_,_,n1,n2,.inr (.inl rfl),n3,n4⟩
  ·rw[hq]at h⊢
   obtain⟨n,n1,n2,n3,n4⟩:=zH (q:=39) h0 (.inr rfl) (hr8 39 (by decide) (by decide) hq) h
   exact⟨n,_,_,n1,n2,.inr (.inl rfl),n3,n4⟩
 rw[if_neg hq]at h⊢
 by_cases vX:(s.get! x.p).toNat=96
 ·rw[if_pos vX]at h⊢
  have hs:(eZ s x.p s.size {x with p:=x.p+1}).ai=0:=by
   split at h
   ·assumption
   ·exact h
  rw[if_pos hs]
  obtain⟨n,n1,n2,n3,n4⟩:=YO h0 (hr8 96 (by decide) (by decide) vX) hs x.line ((x.p:Int)-x.st+1)
  exact⟨n,_,_,n1,n2,.inr (.inl rfl),n3,n4⟩
 rw[if_neg vX]at h⊢
 by_cases Ly:(s.get! x.p).toNat=59
 ·rw[if_pos Ly]
  refine⟨1,4,0,by omega,by omega,.inr (.inr (.inr ⟨rfl,?_⟩)),mI (s:=s) h0 1 4 0,Ui hp Ly⟩
  refine fx (by rw[aA _ _ _ (by omega)];show x.p+1-x.p=1;omega) (fun j hj=> ?_)
  rw[aA _ _ _ (by omega)]at hj
  rw[a7 _ _ _ _ (by omega) hj]
  have:j=0:=by omega
  subst this
  exact UInt8.toNat_inj.1 Ly
 rw[if_neg Ly]at h⊢
 unfold mb at h⊢
 cases hf:(jS.find? fun w=>Lib.hasPrefix (s.extract x.p s.size).data.toList w.data.toList)with
 |none=>
  rw[hf]at h
  cases h
 |some v=>
  simp only
  obtain⟨v1,v2,v3⟩:=ua (by omega) hf
  obtain⟨m1,m2⟩:=Uh hc hl hd hq vX Ly v1 v2
  exact⟨v.size,3,0,m1,v2.le,.inr (.inr (.inl rfl)),mI (s:=s) h0 v.size 3 0,m2⟩
end
end Sc
end Go.Proofs.YtogkcphobhhbdaaGreatDoor
