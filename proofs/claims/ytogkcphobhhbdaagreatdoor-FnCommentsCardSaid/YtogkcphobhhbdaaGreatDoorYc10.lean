/- The scanner of the program told as plain functions, part 10: texts joined and shortened by a program (wip/tools/mini.py). -/
import Derived.Test.YtogkcphobhhbdaaGreatDoorYc9
import Derived.Deep.RegionHeld3
import Derived.Deep.AppendLies
set_option linter.unusedVariables false
set_option linter.unusedSimpArgs false
set_option maxHeartbeats 32000000
namespace Go.Proofs.YtogkcphobhhbdaaGreatDoor
open Go Go.RowKit Go.Lib
namespace Sc
open Ev
set_option maxRecDepth 100000
noncomputable section
theorem iy(O:U)(line:Int):∀(f:Nat) (ao:Bool) (p:Nat) (aM:Int) (ns:List e_),(ak O line f ao p aM ns).ab.length+p<=ns.length+(ak O line f ao p aM ns).p
 |0,_,p,aM,ns=>by simp[ak]
 |f+1,ao,p,aM,ns=>by
  have d1:=gz O p
  simp only[ak]
  by_cases hp:p<O.size
  ·simp only[if_pos hp]
   split
   ·split
    ·have:=iy O line f false (p+1) (u64 (aM+1)) (ns++[⟨u64 (1+line),u64 (1+aM),HO⟩])
     simp only[List.length_append,List.length_singleton]at this;omega
    ·simp only;omega
   ·split
    ·have:=iy O line f false (p+1) (u64 (aM+1)) (ns++[⟨u64 (1+line),u64 (1+aM),xP⟩])
     simp only[List.length_append,List.length_singleton]at this;omega
    ·split
     ·have:=iy O line f false (p+(Utf8.decode O p).2) (u64 (aM+(Utf8.decode O p).2)) (if line>0∨aM>0 then ns++[⟨u64 (1+line),u64 (1+aM),qS⟩]else ns)
      have h2:(if line>0∨aM>0 then ns++[⟨u64 (1+line),u64 (1+aM),qS⟩]else ns:List e_).length<=ns.length+1:=by split<;>simp
      omega
     ·simp only;omega
  ·simp only[if_neg hp];omega
def Cn(O:U)(J:Nat)(a b:St):Prop:=b.ab.length+5000*left O b<=a.ab.length+5000*left O a+J
theorem Cn.refl(O:U)(a:St):Cn O 0 a a:=Nat.le_refl _
theorem Cn.trans{O:U}{J K:Nat}{a b c:St}(h:Cn O J a b)(h':Cn O K b c):Cn O (J+K) a c:=by unfold Cn at*;omega
theorem Cn.da{O:U}{J K:Nat}{a b:St}(h:Cn O J a b)(hJ:J<=K):Cn O K a b:=by unfold Cn at*;omega
theorem jQ{O:U}{a b:St}(e1:b.ab=a.ab)(e2:left O b=left O a):Cn O 0 a b:=by unfold Cn;rw[e1,e2];exact Nat.le_refl _
theorem tr(O:U)(l c:Int)(m:U)(st:St):Cn O 1 st (iG l c m st):=by
 unfold Cn
 have:(iG l c m st).ab.length=st.ab.length+1:=by simp[iG]
 have e:left O (iG l c m st)=left O st:=rfl
 rw[this,e];omega
theorem dN(O:U)(m:U)(st:St):Cn O 1 st (error m st):=tr O _ _ m st
theorem iz(O:U)(o:Int)(m:U)(st:St):Cn O 1 st (bF o m st):=tr O _ _ m st
theorem ts(O:U)(st:St)(h:¬st.ch= -1):(aa O st).ab.length+5000*left O (aa O st)+5000<=st.ab.length+5000*left O st:=by
 have hl:=aQ O st h
 have e1:(aa O st).p=(ak O (aB st) (O.size+1) st.ao st.p (aS st) st.ab).p:=rfl
 have e2:(aa O st).ab=(ak O (aB st) (O.size+1) st.ao st.p (aS st) st.ab).ab:=rfl
 have hc:=iy O (aB st) (O.size+1) st.ao st.p (aS st) st.ab
 rw[←e1,←e2]at hc
 by_cases hp:st.p<O.size
 ·have hr:=kF O (aB st) O.size st.ao st.p (aS st) st.ab hp
  rw[←e1]at hr
  have:left O (aa O st)+2*((aa O st).p-st.p)<=left O st:=by
   unfold left;rw[if_neg h];split<;>omega
  omega
 ·have hr:=nP O (aB st) O.size st.ao st.p (aS st) st.ab hp
  have e3:(aa O st).ab=st.ab:=by rw[e2,hr]
  rw[e3];omega
theorem eX(O:U)(st:St):Cn O 0 st (aa O st):=by
 by_cases h:st.ch= -1
 ·have hl:=gB O st
  have e1:(aa O st).p=(ak O (aB st) (O.size+1) st.ao st.p (aS st) st.ab).p:=rfl
  have e2:(aa O st).ab=(ak O (aB st) (O.size+1) st.ao st.p (aS st) st.ab).ab:=rfl
  have hc:=iy O (aB st) (O.size+1) st.ao st.p (aS st) st.ab
  rw[←e1,←e2]at hc
  unfold Cn
  by_cases hp:st.p<O.size
  ·have hr:=kF O (aB st) O.size st.ao st.p (aS st) st.ab hp
   rw[←e1]at hr
   have:left O (aa O st)+((aa O st).p-st.p)<=left O st:=by
    unfold left;rw[if_pos h];split<;>omega
   omega
  ·have hr:=nP O (aB st) O.size st.ao st.p (aS st) st.ab hp
   have e3:(aa O st).ab=st.ab:=by rw[e2,hr]
   rw[e3];omega
 ·have:=ts O st h
  unfold Cn;omega
theorem abm{O:U}{J:Nat}{a b:St}(h:Cn O J a b)(hb:¬b.ch= -1)(hJ:J<=5000):Cn O 0 a (aa O b):=by
 have:=ts O b hb
 unfold Cn at*;omega
theorem KK{O:U}{J:Nat}{a b:St}(ha:¬a.ch= -1)(h:Cn O J (aa O a) b)(hJ:J<=5000):Cn O 0 a b:=by
 have:=ts O a ha
 unfold Cn at*;omega
theorem Cn.next{O:U}{J:Nat}{a b:St}(h:Cn O J a b):Cn O J a (aa O b):=h.trans (eX O b)
theorem tu(O:U)(c:Int->Bool)(st:St):Cn O 0 st (skip O c st):=sE O c (P:=fun s=>Cn O 0 st s) (fun s h _=>h.next) st (Cn.refl _ _)
theorem Fu(O:U)(st:St):Cn O 0 st (cH O st).2:=by
 unfold cH
 refine cp (body:=nQ O) (μ:=left O) (fun a=>Cn O 0 st a) (P:=fun(b:Bool×St)=>Cn O 0 st b.2) (fun a ha=>⟨fun h=>⟨fun h2=>ha.next.next,fun _=>⟨ha.next,aQ O a (fun e=>by rw[e]at h;cases h)⟩⟩,fun _=>ha⟩) st (Cn.refl _ _)
theorem Zz(O:U)(st:St):Cn O 0 st (pR O st).2:=by
 unfold pR
 refine cp (body:=scB O) (μ:=left O) (fun a=>Cn O 0 st a) (P:=fun(b:Bool×St)=>Cn O 0 st b.2) (fun a ha=> ?_) st (Cn.refl _ _)
 have on:=CG O a
 exact⟨fun h=>⟨fun h2=>ha.trans (Fu O a),fun h2=>⟨(ha.trans (Fu O a)).next,(on.1 h).2 h2⟩⟩,fun _=>ha⟩
theorem lA(O:U)(st:St):Cn O 1 st (aT O st).2:=by
 unfold aT
 split
 ·exact(Zz O st).da (by decide)
 ·exact(Zz O st).trans (iz _ _ _ _)
theorem I6(O:U):∀(rs:List Int) (st:St),Cn O 0 st (kn O rs st).2
 |[],st=>Cn.refl _ _
 |r::rs,st=>by
  simp only[kn]
  split
  ·exact(eX O st).trans (I6 O rs _)
  ·exact Cn.refl _ _
theorem Fv{O s:U}{φ ψ:St->St}{J:Nat}(C1:∀st,Cn O J st (φ st))(Wd:∀st,Cn O J st (ψ st))(st:St):Cn O J st (ku O s φ ψ st):=by
 have e:0+J=J:=Nat.zero_add J
 unfold ku
 split
 ·rw[←e];exact(I6 _ _ _).trans (Wd _)
 ·rw[←e];exact(I6 _ _ _).trans (C1 _)
theorem C_(O:U)(st:St):Cn O 0 st (stop st):=jQ rfl rfl
theorem Fx(O:U)(st:St):Cn O 1 st (vP O st):=(tu O cm st).trans (tr _ _ _ _ _)
theorem Bn(O:U)(st:St):Cn O 1 st (fZ O st):=((C_ O st).trans (tu O cm _)).da (by decide)
theorem yR(O:U)(st:St):Cn O 1 st (bp O st):=by
 unfold bp
 split
 ·exact Fx _ _
 ·split
  ·exact Bn _ _
  ·exact Fv (Bn O) (Fx O) st
theorem Fy(O:U)(st:St):Cn O 2 st (qD O st):=by
 unfold qD
 split
 ·exact(lA O st).trans (tr _ _ _ _ _)
 ·exact(lA O st).da (by decide)
theorem Bo(O:U)(st:St):Cn O 2 st (gK O st):=((C_ O st).trans (lA O _)).da (by decide)
theorem pn(O:U)(st:St):Cn O 2 st (aJ O st):=by
 unfold aJ
 split
 ·exact Fy _ _
 ·split
  ·exact Bo _ _
  ·exact Fv (Bo O) (Fy O) st
theorem tv(O:U)(b:Int)(p:St×Int×Int)(hI:uB b p):Cn O 1 p.1 (bZ O b p).1:=by
 unfold bZ
 refine cp (body:=CH O b) (μ:=It) (fun a=>uB b a∧Cn O 0 p.1 a.1) (P:=fun(q:St×Int×Option Bool)=>Cn O 1 p.1 q.1) (fun a ha=> ?_) p ⟨hI,Cn.refl _ _⟩
 have on:=wM O b a ha.1
 refine⟨fun h1=>⟨fun _=>ha.2.da (by decide),fun h2=>⟨fun h3=>⟨(((on.1 h1).2 h2).1 h3).1,ha.2.trans (dN _ _ _)⟩,fun h3=> ?_⟩⟩,fun _=>ha.2.da (by decide)⟩
 have:=((on.1 h1).2 h2).2 h3
 exact⟨⟨this.1,ha.2.next⟩,this.2⟩
theorem oc(O:U)(b m:Int)(st:St)(r:St×Int×Option Bool)(h:Cn O 1 st r.1):Cn O 2 st (dG b m r).2:=by
 unfold dG
 split
 ·exact h.da (by decide)
 ·split
  ·exact h.trans (dN _ _ _)
  ·split
   ·exact h.trans (dN _ _ _)
   ·exact h.da (by decide)
theorem Bp(O:U)(q:Int)(st:St):Cn O 2 st (bt O q st).2:=by
 unfold bt
 split
 ·exact(eX _ _).da (by decide)
 ·split
  ·exact oc O _ _ _ _ (tv O 8 (st,0,3) ⟨.inl rfl,by show(3:Int)<=8;decide⟩)
  ·split
   ·exact oc O _ _ _ _ ((eX O st).trans (tv O 16 (aa O st,0,2) ⟨.inr rfl,by show(2:Int)<=8;decide⟩))
   ·split
    ·exact oc O _ _ _ _ ((eX O st).trans (tv O 16 (aa O st,0,4) ⟨.inr rfl,by show(4:Int)<=8;decide⟩))
    ·split
     ·exact oc O _ _ _ _ ((eX O st).trans (tv O 16 (aa O st,0,8) ⟨.inr rfl,by show(8:Int)<=8;decide⟩))
     ·split
      ·exact(Cn.refl _ _).da (by decide)
      ·exact(dN _ _ _).da (by decide)
theorem RL(O:U)(p:St×Bool):Cn O 1 p.1 (mW O p).1:=by
 unfold mW
 refine cp (body:=Iw O) (μ:=Ab O) (fun a=>Cn O 0 p.1 a.1) (P:=fun(q:St×Bool)=>Cn O 1 p.1 q.1) (fun a ha=> ?_) p (Cn.refl _ _)
 refine⟨fun _=>ha.next.da (by decide),fun h1=>⟨fun _=>ha.trans (iz _ _ _ _),fun h2=>⟨ha.next,aQ O a.1 (uD h2)⟩⟩⟩
theorem RM(O:U)(p:St×Bool):Cn O 1 p.1 (iV O p).1:=by
 unfold iV
 refine cp (body:=Ix O) (μ:=Ab O) (fun a=>Cn O 0 p.1 a.1) (P:=fun(q:St×Bool)=>Cn O 1 p.1 q.1) (fun a ha=> ?_) p (Cn.refl _ _)
 have QF:(a.1.ch==92)=true->Cn O 0 p.1 (bt O 34 (aa O a.1)).2∧left O (bt O 34 (aa O a.1)).2<left O a.1:=fun h=>by
  have dH:¬a.1.ch= -1:=vL (by decide) h
  exact⟨ha.trans (KK dH (Bp O 34 (aa O a.1)) (by decide)),Nat.lt_of_le_of_lt (nT O 34 (aa O a.1)).left (aQ O a.1 dH)⟩
 exact⟨fun _=>ha.next.da (by decide),fun _=>⟨fun h=>⟨fun _=>QF h,fun _=>QF h⟩,fun _=>⟨fun _=>ha.trans (dN _ _ _),fun _=>⟨fun _=>ha.trans (iz _ _ _ _),fun h2=>⟨ha.next,aQ O a.1 (uD h2)⟩⟩⟩⟩⟩
theorem NC(O:U)(p:St×Bool×Int):Cn O 1 p.1 (dc O p).1:=by
 unfold dc
 refine cp (body:=sM O) (μ:=yi O) (fun a=>Cn O 0 p.1 a.1) (P:=fun(q:St×Bool)=>Cn O 1 p.1 q.1) (fun a ha=> ?_) p (Cn.refl _ _)
 have QF:(a.1.ch==92)=true->Cn O 0 p.1 (bt O 39 (aa O a.1)).2∧left O (bt O 39 (aa O a.1)).2<left O a.1:=fun h=>by
  have dH:¬a.1.ch= -1:=vL (by decide) h
  exact⟨ha.trans (KK dH (Bp O 39 (aa O a.1)) (by decide)),Nat.lt_of_le_of_lt (nT O 39 (aa O a.1)).left (aQ O a.1 dH)⟩
 have n0:Cn O 1 p.1 (aa O a.1):=ha.next.da (by decide)
 have w:Cn O 1 p.1 a.1:=ha.da (by decide)
 exact⟨fun _=>⟨fun _=>⟨fun _=>(ha.trans (dN _ _ _)).next,fun _=>⟨fun _=>(ha.trans (iz _ _ _ _)).next,fun _=>n0⟩⟩,fun _=>n0⟩,
  fun _=>⟨fun h=>⟨fun _=>QF h,fun _=>QF h⟩,fun _=>⟨fun _=>⟨fun _=>ha.trans (dN _ _ _),fun _=>w⟩,fun _=>⟨fun _=>⟨fun _=>ha.trans (iz _ _ _ _),fun _=>w⟩,fun h2=>⟨ha.next,aQ O a.1 (uD h2)⟩⟩⟩⟩⟩
theorem pX(O:U)(k:Int)(ok:Bool)(st:St):Cn O 0 st (bJ O k ok st):=jQ rfl rfl
theorem abn(O:U)(st:St):Cn O 1 st (fc O st):=((eX O st).trans (RM O (aa O st,true))).trans (pX _ _ _ _)
theorem abo(O:U)(st:St):Cn O 1 st (fb O st):=((eX O st).trans (RL O (aa O st,true))).trans (pX _ _ _ _)
theorem WL(O:U)(st:St):Cn O 1 st (yk O st):=((eX O st).trans (NC O (aa O st,true,0))).trans (pX _ _ _ _)
theorem Da(O:U)(f:Bool)(st:St):Cn O 1 st (cA f st).2:=by
 unfold cA
 split
 ·exact(Cn.refl _ _).da (by decide)
 ·split
  ·show Cn O 1 st (if f=true then _ else _)
   split
   ·exact dN _ _ _
   ·exact(Cn.refl _ _).da (by decide)
  ·split
   ·exact dN _ _ _
   ·exact(Cn.refl _ _).da (by decide)
def ahO(O:U)(st:St):Step St St->Prop
 | .go a'=>Cn O 0 st a'
 | .out q=>Cn O 1 st q
theorem abp(O:U)(a:St):(V1 O a).all (ahO O a):=
 ⟨fun h=>abm (Da O false a) (by rw[pd];exact yq h) (by decide),fun _=>Da O false a⟩
theorem WM(O:U)(st:St)(h:fY st):Cn O 1 st (qq O st):=by
 unfold qq
 refine cp (body:=V1 O) (μ:=left O) (fun a=>fY a∧Cn O 0 st a) (P:=fun q=>Cn O 1 st q) (fun a ha=> ?_) st ⟨h,Cn.refl _ _⟩
 refine an (jN (CT O a ha.1) (abp O a)) (fun s hs=> ?_)
 cases s with
 |go a'=>exact⟨⟨hs.1.1,ha.2.trans hs.2⟩,hs.1.2.2⟩
 |out q=>exact ha.2.trans hs.2
theorem vW(O:U)(s:St):Cn O 0 s (cW O s):=by
 unfold cW
 split<;>exact jQ rfl rfl
theorem Fz{O:U}{st:St}(h:fY st):Cn O 1 st (dV O st):=by
 unfold dV
 split
 ·exact((tu O qp st).trans (WM O _ (pS h))).trans (vW _ _)
 ·exact((tu O qp st).trans (vW _ _)).da (by decide)
def dCn{κ:Type}(O:U)(st:St):Step (St×κ) (St×κ)->Prop
 | .go a'=>Cn O 0 st a'.1
 | .out q=>Cn O 0 st q.1
theorem WN(O:U)(mx:Int)(a:St×Int×Int):(yl O mx a).all (dCn O a.1):=by
 have n:=eX O a.1
 have k:(vN O mx a).all (dCn O a.1):=⟨fun _=>n,fun _=>⟨fun _=>⟨fun _=>n,fun _=>n⟩,fun _=>n⟩⟩
 exact⟨fun _=>k,fun _=>⟨fun _=>k,fun _=>Cn.refl _ _⟩⟩
theorem WO(O:U)(a:St×Int):(Ac O 58 a).all (dCn O a.1):=by
 have n:=eX O a.1
 have k:(Ks O 58 a).all (dCn O a.1):=⟨fun _=>n,fun _=>⟨fun _=>trivial,fun _=>n⟩⟩
 exact⟨fun _=>k,fun _=>⟨fun _=>k,fun _=>Cn.refl _ _⟩⟩
theorem WQ(O:U)(a:St×Int):(Ae O a).all (dCn O a.1):=by
 have n:=eX O a.1
 exact⟨fun _=>⟨fun _=>n,fun _=>n⟩,fun _=>⟨fun _=>⟨fun _=>n,fun _=>n⟩,fun _=>Cn.refl _ _⟩⟩
theorem kK(O:U)(b:Int)(st:St)(inv:Int):Cn O 0 st (bY O b st inv).1:=by
 unfold bY
 split
 ·refine cp (body:=yl O (IntKind.i32.wrap (IntKind.i64.wrap (48+b)))) (μ:=mY O) (fun a=>Cn O 0 st a.1) (P:=fun q=>Cn O 0 st q.1) (fun a ha=> ?_) (st,0,inv) (Cn.refl _ _)
  refine an (jN (wP O _ a) (WN O _ a)) (fun s hs=> ?_)
  cases s with
  |go a'=>exact⟨ha.trans hs.2,hs.1.2⟩
  |out q=>exact ha.trans hs.2
 ·refine cp (body:=Ae O) (μ:=oF O) (fun a=>Cn O 0 st a.1) (P:=fun q=>Cn O 0 st q.1) (fun a ha=> ?_) (st,0) (Cn.refl _ _)
  refine an (jN (wR O a) (WQ O a)) (fun s hs=> ?_)
  cases s with
  |go a'=>exact⟨ha.trans hs.2,hs.1.2⟩
  |out q=>exact ha.trans hs.2
theorem WR(O:U)(st:St):Cn O 0 st (cP O (st,0)).1:=by
 unfold cP
 refine cp (body:=Ac O 58) (μ:=oF O) (fun a=>Cn O 0 st a.1) (P:=fun q=>Cn O 0 st q.1) (fun a ha=> ?_) (st,0) (Cn.refl _ _)
 refine an (jN (wQ O a) (WO O a)) (fun s hs=> ?_)
 cases s with
 |go a'=>exact⟨ha.trans hs.2,hs.1.2⟩
 |out q=>exact ha.trans hs.2
theorem FA{α:Type}{P Q:α->Prop}{t:af α}(h:t.all P)(hpq:∀a,P a->Q a):t.all Q:=by
 induction t with
 |ae a=>exact hpq a h
 |aj b t e iQ jH=>exact⟨fun hb=>iQ (h.1 hb),fun hb=>jH (h.2 hb)⟩
 |aY p k ih=>exact ih h
 |any t e iQ jH=>exact⟨iQ h.1,jH h.2⟩
 |fail=>trivial
theorem all_bind{α β:Type}{P:α->Prop}{Q:β->Prop}{t:af α}{f:α->af β}(h:t.all P)(hf:∀a,P a->(f a).all Q):(t.bind f).all Q:=by
 induction t with
 |ae a=>exact hf a h
 |aj b t e iQ jH=>exact⟨fun hb=>iQ (h.1 hb),fun hb=>jH (h.2 hb)⟩
 |aY p k ih=>exact ih (show k.all P from h)
 |any t e iQ jH=>exact⟨iQ h.1,jH h.2⟩
 |fail=>trivial
theorem FB{O:U}{base pre d0:Int}{st:St}{r:St×Int×Int}(h:Cn O 0 st r.1):(G_ O base pre d0 r).all (fun a=>Cn O 1 st a.st):=by
 have e:∀m,Cn O 1 st (aa O (error m r.1)):=fun m=>(h.trans (dN O m _)).next
 exact⟨fun _=>⟨fun _=>e _,fun _=>⟨fun _=>e _,fun _=>h.next.da (by decide)⟩⟩,fun _=>h.da (by decide)⟩
theorem abq(O:U)(st:St):(uE O st).all (fun a=>Cn O 1 st a.st):=by
 have n1:=eX O st
 have n2:=n1.next
 exact⟨fun _=>⟨fun _=>FB (n2.trans (kK _ _ _ _)),fun _=>⟨fun _=>FB (n2.trans (kK _ _ _ _)),fun _=>⟨fun _=>FB (n2.trans (kK _ _ _ _)),fun _=>FB (n1.trans (kK _ _ _ _))⟩⟩⟩,fun _=>FB (kK _ _ _ _)⟩
theorem aeX(O:U)(s:bh):(IN O s).all (fun a=>Cn O 0 s.st a.st):=⟨fun _=>kK _ _ _ _,fun _=>Cn.refl _ _⟩
theorem aeY(O:U)(s:bh):(EW s).all (fun a=>Cn O 1 s.st a.st):=by
 have w:Cn O 1 s.st s.st:=(Cn.refl _ _).da (by decide)
 exact⟨fun _=>⟨fun _=>dN _ _ _,fun _=>w⟩,fun _=>w⟩
theorem uK{O:U}{J:Nat}{st:St}{s:bh}{x:St}(h:Cn O J st x):(dW O s x).all (fun a=>Cn O (J+1) st a.st):=by
 have d:Cn O J st (cP O (x,0)).1:=h.trans (WR O x)
 have w:Cn O (J+1) st (cP O (x,0)).1:=d.da (Nat.le_succ _)
 exact⟨fun _=>⟨fun _=>d.trans (dN _ _ _),fun _=>w⟩,fun _=>w⟩
theorem yS{O:U}{J:Nat}{st:St}{s:bh}(h:Cn O J st s.st):(dz O s).all (fun a=>Cn O (J+1) st a.st):=
 ⟨fun _=>uK h.next.next,fun _=>⟨fun _=>uK h.next.next,fun _=>uK h.next⟩⟩
theorem ND(O:U)(s:bh)(x:Int):Cn O 1 s.st (fe (s,x)).st:=by
 unfold fe
 simp only
 split
 ·exact dN _ _ _
 ·split
  ·exact dN _ _ _
  ·exact(Cn.refl _ _).da (by decide)
theorem aeZ(O:U)(B:Prop)(s:bh):(DS O B s).all (fun a=>Cn O 2 s.st a.st):=by
 have a1:(dz O (fe (s,ay s.st.ch))).all (fun a=>Cn O 2 s.st a.st):=yS (ND O s _)
 have a2:(dz O s).all (fun a=>Cn O 2 s.st a.st):=FA (yS (Cn.refl _ _)) (fun a h=>h.da (by decide))
 have w:Cn O 2 s.st s.st:=(Cn.refl _ _).da (by decide)
 exact⟨fun _=>⟨fun _=>a1,fun _=>a2⟩,fun _=>⟨fun _=>⟨fun _=>a1,fun _=>a2⟩,fun _=>⟨fun _=>⟨fun _=>⟨fun _=>(dN _ _ _).da (by decide),fun _=>w⟩,fun _=>w⟩,fun _=>w⟩⟩⟩
theorem abr(O:U)(s:bh):(q_ O s).all (fun a=>Cn O 0 s.st a.st):=⟨fun _=>eX _ _,fun _=>Cn.refl _ _⟩
theorem ae0(O:U)(s:bh):(EY O s).all (fun a=>Cn O 1 s.st a.st):=by
 have l:=pX O s.kind s.ok s.st
 have w:Cn O 1 s.st (bJ O s.kind s.ok s.st):=l.da (by decide)
 exact⟨fun _=>⟨fun _=>⟨fun _=>l.trans (iz _ _ _ _),fun _=>w⟩,fun _=>w⟩,fun _=>w⟩
theorem ae1(O:U)(s:bh):(Ha s).all (fun a=>Cn O 1 s.st a.st):=by
 have w:Cn O 1 s.st s.st:=(Cn.refl _ _).da (by decide)
 exact⟨fun _=>⟨fun _=>⟨fun _=>iz _ _ _ _,fun _=>w⟩,fun _=>w⟩,fun _=>w⟩
theorem yT{O:U}{J:Nat}{st:St}{s:bh}(h:Cn O J st s.st):(dd O True af.ae s).all (fun a=>Cn O (J+5) st a.st):=
 all_bind (aeX O s) fun a ha=>all_bind (aeY O a) fun b hb=>all_bind (aeZ O True b) fun c hc=>all_bind (abr O c) fun d hd=>all_bind (ae0 O d) fun e he=>all_bind (ae1 O e) fun f hf=>(((((h.trans ha).trans hb).trans hc).trans hd).trans he).trans hf
theorem Bq{O:U}{seen:Bool}{st:St}(h:gV O st)(hc:st.ch≠10):Cn O 6 st (fp O seen st):=by
 have key:(dr O True af.ae seen st).all (fun a=>Cn O 6 st a.st):=by
  unfold dr
  split
  ·exact FA (yT (J:=0) (Cn.refl _ _)) (fun a h=>h.da (by decide))
  ·exact all_bind (abq O st) fun a ha=>yT ha
 have:=(tc h hc).1 (an (jN (KC h hc) key) (fun a h=>h.2))
 exact this.trans (jQ rfl rfl)
def SwC(O:U)(st:St):Fin->Prop
 | .done s _=>Cn O 20 st s
 | .fP s=>Cn O 20 st s
 | .zN s=>Cn O 20 st s
theorem NF{O:U}{st:St}(hO:gV O st)(hb:st.b=some (st.p-st.bD))(hP:Pos O st)(hc:st.ch=46):Cn O 0 st (aa O (cd O (aa O (aa O st)))):=by
 obtain⟨r1,r2,r3,_⟩:=pU hb hP hc (aa O (aa O st)) rfl
 have hw:=hP.w;have hn:=hP.n;have eJ:=hO.sz
 have h1:st.bD=1:=by
  have:=hP.QE (by rw[hc];decide)
  have:=hP.pos (by rw[hc];decide)
  omega
 have e:(aa O (aa O st)).b.getD 0=st.p-1:=by show st.b.getD 0=_;rw[hb,h1];rfl
 have cnt:∀s:St,s.p<=O.size->(aa O s).ab.length<=s.ab.length+2048:=fun s hs=>by
  have h1:=iy O (aB s) (O.size+1) s.ao s.p (aS s) s.ab
  have h2:=(dJ (O:=O) hs).1.n
  have e1:(aa O s).p=(ak O (aB s) (O.size+1) s.ao s.p (aS s) s.ab).p:=rfl
  have e2:(aa O s).ab=(ak O (aB s) (O.size+1) s.ao s.p (aS s) s.ab).ab:=rfl
  rw[←e1,←e2]at h1
  omega
 have c1:=cnt st hn
 have c2:=cnt (aa O st) (dJ (O:=O) hn).1.n
 have hrn:(cd O (aa O (aa O st))).ab.length<=(aa O (aa O st)).ab.length+1:=by
  have h1:=iy O (aB {aa O (aa O st)with p:=(aa O (aa O st)).b.getD 0,aL:=u64 ((aa O (aa O st)).aL-u64 (((aa O (aa O st)).p:Int)-((aa O (aa O st)).b.getD 0:Nat)))}) (O.size+1) (aa O (aa O st)).ao ((aa O (aa O st)).b.getD 0) (aS {aa O (aa O st)with p:=(aa O (aa O st)).b.getD 0,aL:=u64 ((aa O (aa O st)).aL-u64 (((aa O (aa O st)).p:Int)-((aa O (aa O st)).b.getD 0:Nat)))}) (aa O (aa O st)).ab
  have e2:(cd O (aa O (aa O st))).ab.length+(aa O (aa O st)).b.getD 0<=(aa O (aa O st)).ab.length+(cd O (aa O (aa O st))).p:=h1
  rw[e,r1]at e2
  omega
 have hl:left O (cd O (aa O (aa O st)))=left O st:=by unfold left;rw[r1,r3,hc]
 have:=ts O (cd O (aa O (aa O st))) (by rw[r3];decide)
 unfold Cn
 omega
theorem KL{O:U}{nl:Bool}{st:St}(hO:gV O st)(hP:Pos O st)(Ww:st.b=some (st.p-st.bD)):(jM O nl st).aD (SwC O st):=by
 have hb:=hO.b
 have eqv:∀{k:Int},(st.ch==k)=true->st.ch=k:=fun h=>by simpa using h
 have z:Cn O 0 st st:=Cn.refl _ _
 have g1:Cn O 0 st (aa O st):=eX _ _
 have g2:=g1.next
 have g3:=g2.next
 have up:∀{a b:St},Cn O 0 st a->b.ab=a.ab->left O b=left O a->Cn O 0 st b:=fun h e1 e2=>h.trans (jQ e1 e2)
 have f1:∀{t:Int} {s:St},Cn O 0 st s->(te t s).aD (SwC O st):=fun h=>(up h rfl rfl).da (by decide)
 have f4:∀{o p:Int} {s:St},Cn O 0 st s->(DT o p s).aD (SwC O st):=fun h=>(up h rfl rfl).da (by decide)
 have fA:∀{o p:Int} {s:St},Cn O 0 st s->(E4 o p s).aD (SwC O st):=fun h=>(up h rfl rfl).da (by decide)
 have fl:∀{w:U} {s:St},Cn O 0 st s->SwC O st (.done (lit w s) []):=fun h=>(up h rfl rfl).da (by decide)
 have num:∀k:Int,k≠10->(st.ch==k)=true->(fi O false st).aD (SwC O st):=fun k hk h=>by
  have hc:st.ch≠10:=fun e=>hk ((eqv h).symm.trans e)
  exact⟨⟨hO,hc⟩,(Bq hO hc).da (by decide)⟩
 have sm:Cn O 0 st (lO (aa O st)):=up g1 rfl rfl
 have on:∀o p,Cn O 0 st (aa O (Hc o p (aa O st))):=fun o p=>Cn.next (up g1 rfl rfl)
 have osn:∀o p,Cn O 0 st (lO (aa O (Hc o p (aa O st)))):=fun o p=>up (on o p) rfl rfl
 refine ar (ar (fl z) (f1 z)) (ar (fl g1) ?_)
 refine bf (num 48 (by decide)) (bf (num 49 (by decide)) (bf (num 50 (by decide)) (bf (num 51 (by decide)) (bf (num 52 (by decide)) ?_))))
 refine bf (num 53 (by decide)) (bf (num 54 (by decide)) (bf (num 55 (by decide)) (bf (num 56 (by decide)) (bf (num 57 (by decide)) ?_))))
 refine ar ⟨hb,(abn O st).da (by decide)⟩ (ar ⟨hb,(abo O st).da (by decide)⟩ (ar ⟨hb,(WL O st).da (by decide)⟩ ?_))
 refine ar (f1 g1) (ar (f1 g1) (ar (f1 g1) (ar (f1 g1) (ar (fl g1) (ar (f1 sm) (ar (f1 sm) (ar (f1 sm) ?_)))))))
 refine ar (ar (f1 g2) (f1 g1)) ?_
 refine bf (fun h=>bf (fun h3=> ?_) (bf (fun h2=>ar (f1 g3) ⟨hb,f1 (NF hO Ww hP (eqv h))⟩) (f1 g1))) ?_
 ·have o1:=(hO.next (by rw[eqv h];decide)).1
  have c1:(aa O st).ch≠10:=fun e=>by rw[e]at h3;exact absurd h3 (by decide)
  exact⟨⟨o1,c1⟩,(g1.trans (Bq o1 c1)).da (by decide)⟩
 have r1:Cn O 20 st (bp O (aa O (aa O st))):=(g2.trans (yR _ _)).da (by decide)
 have r2:Cn O 20 st (aJ O (aa O (aa O st))):=(g2.trans (pn _ _)).da (by decide)
 have r2l:Cn O 20 st (lit gu (aJ O (aa O (aa O st)))):=((g2.trans (pn _ _)).trans (jQ rfl rfl)).da (by decide)
 refine ar (ar (fA g1) (f1 (osn 13 4))) (ar (ar (fA g1) (f1 (osn 14 4))) (ar (ar (f1 (on 17 5)) (f1 (up g1 rfl rfl))) ?_))
 refine ar (ar ⟨hb,r1⟩ (ar ⟨hb,ar (ar r2l r2) r2⟩ (fA g1))) ?_
 have e21:Cn O 20 st {aa O (Hc 20 5 (aa O st))with op:=21}:=((on 20 5).trans (jQ rfl rfl)).da (by decide)
 refine ar (fA g1) (ar (ar (f4 g2) (ar e21 (fA g1))) (ar (ar (f4 g2) (fA g1)) (ar (fA g1) ?_)))
 refine ar (ar (f4 g2) (ar (fA g2) (ar (f1 g2) (f4 g1)))) (ar (ar (f4 g2) (ar (fA g2) (f4 g1))) (ar (ar (f4 g2) (f1 g1)) (ar (ar (f4 g2) (f4 g1)) (ar (f4 g1) ?_))))
 exact((dN O fq st).trans (eX _ _)).da (by decide)
theorem NG{O:U}{nl:Bool}{st:St}(h:fQ O st)(hs:O.size<=2048):(iY O nl st).aD (fun f=>match f with
 | .done s _=>Cn O 40 st s
 | .fP s=>Cn O 40 st s
 | .zN s=>Cn O 40 st s):=by
 obtain⟨p1,a1,n1⟩:=ly (nl:=nl) h
 have c1:Cn O 0 st (skip O (aI nl) (stop st)):=(C_ O st).trans (tu O _ _)
 have key:∀bl:Bool,(A8 O (fun s=>Fin.done s []) (jM O nl) (gC bl (skip O (aI nl) (stop st)))).aD (fun f=>match f with
  | .done s _=>Cn O 40 st s
  | .fP s=>Cn O 40 st s
  | .zN s=>Cn O 40 st s):=fun bl=>by
  have c2:Cn O 0 st (gC bl (skip O (aI nl) (stop st))):=c1.trans (jQ rfl rfl)
  have hO:=ti (bl:=bl) p1 hs
  have hP:=tj bl p1
  have Ww:(gC bl (skip O (aI nl) (stop st))).b=some ((gC bl (skip O (aI nl) (stop st))).p-(gC bl (skip O (aI nl) (stop st))).bD):=rfl
  generalize gC bl (skip O (aI nl) (stop st))=s at*
  have oI:=Da O true s
  have sI:=uH true s
  have w:∀(a:St),Cn O 1 st a->∀f,SwC O a f->(match f with
   | .done s _=>Cn O 40 st s
   | .fP s=>Cn O 40 st s
   | .zN s=>Cn O 40 st s):=fun a ha f hf=>by
   cases f with
   |done s bx=>exact(ha.trans (show Cn O 20 a s from hf)).da (by decide)
   |fP s=>exact(ha.trans (show Cn O 20 a s from hf)).da (by decide)
   |zN s=>exact(ha.trans (show Cn O 20 a s from hf)).da (by decide)
  refine⟨fun _=>⟨⟨cq _ _,hO.b⟩,(c2.next.trans (Fz (cq _ _))).da (by decide)⟩,fun _=>⟨fun _=>⟨hP.ch,fun _=>⟨⟨cq _ _,by rw[sI.2.2.1];exact hO.b⟩,((c2.trans oI).next.trans (Fz (cq _ _))).da (by decide)⟩,fun _=> ?_⟩,fun _=> ?_⟩⟩
  ·exact an (KL (yI hO) ((pb O true s).pos hP).1 (by rw[sI.2.2.1,sI.1,sI.2.1];exact Ww)) (w _ (c2.trans oI))
  ·exact an (KL hO hP Ww) (w _ (c2.da (by decide)))
 exact key _
theorem FC{O:U}{st:St}(h:fQ O st)(hs:O.size<=2048):(aK O st).1.ab.length+6000*left O (aK O st).1<=st.ab.length+6000*left O st+50:=by
 unfold aK
 refine cp (body:=kv O st.au) (μ:=left O) (fun a=>fQ O a∧left O a<=left O st∧a.ab.length+6000*left O a<=st.ab.length+6000*left O st) (P:=fun r:St×List Value=>r.1.ab.length+6000*left O r.1<=st.ab.length+6000*left O st+50) (fun a ha=> ?_) {st with au:=false} ⟨tp h false,Nat.le_refl _,Nat.le_refl _⟩
 obtain⟨h1,h2,h3⟩:=ha
 unfold kv
 rw[ax]
 refine an (Fh (jA h1 hs) (NG h1 hs)) (fun f hf=> ?_)
 obtain⟨hf,hc⟩:=hf
 cases f with
 |done s bx=>
  have hc:Cn O 40 a s:=hc
  have hl:=hf.2.1.left
  unfold Cn at hc
  show s.ab.length+6000*left O s<=_
  omega
 |fP s=>
  have hc:Cn O 40 a s:=hc
  have hl:left O s<left O a:=hf.2.2.1
  unfold Cn at hc
  exact⟨⟨.inl hf.1,by omega,by omega⟩,hl⟩
 |zN s=>
  have hc:Cn O 40 a s:=hc
  have hl:=hf.2.1.left
  have c2:Cn O 0 s (lP O s):=by
   unfold lP
   split
   ·exact(eX O s).trans (jQ rfl rfl)
   ·exact jQ rfl rfl
  have f2:left O (lP O s)<=left O s:=by
   unfold lP
   split
   ·exact gB O s
   ·exact Nat.le_refl _
  unfold Cn at hc c2
  show(lP O s).ab.length+6000*left O (lP O s)<=_
  omega
def qF(O:U):Nat->St->St
 |0,st=>st
 |n+1,st=>if(aK O st).1.tok=1 then(aK O st).1 else qF O n (aK O st).1
def last(O:U)(m:Int):St:=qF O (fz O (jj m)+1) (jj m)
theorem FD{O:U}:∀(n:Nat) (st:St),Iv O st->fz O st<n->(qF O n st).ab.length<=st.ab.length+7000*(fz O st+1)
 |0,_,_,h=>absurd h (Nat.not_lt_zero _)
 |n+1,st,hI,hm=>by
  obtain⟨gy,hk,ht,bz⟩:=jP hI
  have hc:=FC hI.pos hI.sz
  have hl:=(jB hI.pos hI.sz).2.1.left
  have ml:2*left O st<=fz O st:=by unfold fz;omega
  have mu:fz O st<=2*left O st+1:=by unfold fz;split<;>omega
  have ml':2*left O (aK O st).1<=fz O (aK O st).1:=by unfold fz;omega
  have mu':fz O (aK O st).1<=2*left O (aK O st).1+1:=by unfold fz;split<;>omega
  rw[qF]
  split
  ·omega
  ·rename_i dH
   have h2:=bz dH
   have:=FD n _ gy (by omega)
   omega
theorem WS{O:U}(m:Int)(hs:O.size<=2048):(last O m).ab.length<=60000000:=by
 have:=FD (O:=O) (fz O (jj m)+1) (jj m) (j9 O m hs) (Nat.lt_succ_self _)
 have h2:fz O (jj m)<=8196:=by
  have:left O (jj m)=2*(O.size-0)+1:=rfl
  unfold fz
  rw[if_neg (show¬(jj m).au=true from fun h=>by cases h)]
  omega
 have h3:(jj m).ab.length=0:=rfl
 unfold last
 omega
structure bA(O:U)(p:Nat)(r:Int)(w:Nat):Prop where
 lt:p<O.size
 ch:((O.get! p).toNat<128∧(O.get! p).toNat≠0∧r=(O.get! p).toNat∧w=1)∨
  (¬(O.get! p).toNat<128∧¬((Utf8.decode O p).1=0xFFFD∧(Utf8.decode O p).2=1)∧(Utf8.decode O p).1≠0xFEFF∧r=(Utf8.decode O p).1∧w=(Utf8.decode O p).2)
theorem bA.uniq{O:U}{p w w':Nat}{r r':Int}(h:bA O p r w)(h':bA O p r' w'):r=r'∧w=w':=by
 rcases h.ch with⟨a1,a2,a3,a4⟩|⟨a1,a2,a3,a4,a5⟩<;>rcases h'.ch with⟨b1,b2,b3,b4⟩|⟨b1,b2,b3,b4,b5⟩
 ·exact⟨a3.trans b3.symm,a4.trans b4.symm⟩
 ·exact absurd a1 b1
 ·exact absurd b1 a1
 ·exact⟨a4.trans b4.symm,a5.trans b5.symm⟩
theorem bA.w{O:U}{p w:Nat}{r:Int}(h:bA O p r w):1<=w∧p+w<=O.size∧1<=r∧r<=1114111:=by
 have hl:=h.lt
 rcases h.ch with⟨a1,a2,a3,a4⟩|⟨a1,a2,a3,a4,a5⟩
 ·omega
 ·have d1:=gz O p
  have d2:=km O p hl
  have d3:=lW O p a1
  have d4:=QD O p
  omega
theorem bA.byte{O:U}{p w:Nat}{r:Int}(h:bA O p r w)(hr:r<128):r=(O.get! p).toNat∧w=1:=by
 rcases h.ch with⟨a1,a2,a3,a4⟩|⟨a1,a2,a3,a4,a5⟩
 ·exact⟨a3,a4⟩
 ·have d3:=lW O p a1
  omega
theorem cM{O:U}{p:Nat}(hp:p<O.size)(h1:(O.get! p).toNat<128)(h2:(O.get! p).toNat≠0):bA O p (O.get! p).toNat 1:=⟨hp,.inl ⟨h1,h2,rfl,rfl⟩⟩
def iP(O:U)(p:Nat):Prop:=(∃r w,bA O p r w)∨p=O.size
structure Std(O:U)(p:Nat)(st:St):Prop where
 ao:st.ao=false
 here:st.p=p+st.bD
 ch:bA O p st.ch st.bD∨(p=O.size∧st.ch= -1∧st.bD=0)
theorem Std.at{O:U}{p:Nat}{st:St}(h:Std O p st)(dH:st.ch≠ -1):bA O p st.ch st.bD:=by
 rcases h.ch with h|h
 ·exact h
 ·exact absurd h.2.1 dH
theorem Std.of{O:U}{p:Nat}{st:St}(h:Std O p st){r:Int}{w:Nat}(hc:bA O p r w):st.ch=r∧st.bD=w:=by
 rcases h.ch with h|h
 ·exact h.uniq hc
 ·have:=hc.lt;omega
theorem Std.end{O:U}{st:St}(h:Std O O.size st):st.ch= -1∧st.bD=0:=by
 rcases h.ch with h|h
 ·have:=h.lt;omega
 ·exact h.2
theorem Std.same{O:U}{p:Nat}{a b:St}(h:Std O p a)(e1:b.ao=a.ao)(e2:b.p=a.p)(e3:b.bD=a.bD)(e4:b.ch=a.ch):Std O p b:=
 ⟨e1.trans h.ao,by rw[e2,e3];exact h.here,by rw[e3,e4];exact h.ch⟩
theorem Std.cut{O:U}{p:Nat}{st:St}(h:Std O p st):st.p-st.bD=p:=by have:=h.here;omega
theorem Std.pos{O:U}{p:Nat}{st:St}(h:Std O p st):Pos O st:=by
 have hh:=h.here
 rcases h.ch with hc|⟨h1,h2,h3⟩
 ·obtain⟨w1,w2,w3,w4⟩:=hc.w
  refine⟨by omega,by omega,fun _=>w1,by omega,w4,fun hr=>Nat.le_of_eq (hc.byte hr).2,fun _ hr=> ?_⟩
  obtain⟨e1,e2⟩:=hc.byte hr
  rw[hh,e2,show p+1-1=p by omega];exact e1.symm
 ·exact⟨by omega,by omega,fun hn=>absurd h2 hn,by omega,by omega,fun _=>by omega,fun hn=>by omega⟩
theorem NH{O:U}{line:Int}{f p:Nat}{ao:Bool}{aM:Int}{ns:List e_}(h:iP O p):ak O line (f+1) ao p aM ns=
 if p<O.size then(if(O.get! p).toNat<128 then⟨p+1,aM,(O.get! p).toNat,1,ns⟩else⟨p+(Utf8.decode O p).2,aM,(Utf8.decode O p).1,(Utf8.decode O p).2,ns⟩)else⟨p,aM,-1,0,ns⟩:=by
 rcases h with⟨r,w,hc⟩|h
 ·have hl:=hc.lt
  simp only[ak,if_pos hl]
  rcases hc.ch with⟨a1,a2,a3,a4⟩|⟨a1,a2,a3,a4,a5⟩
  ·rw[if_pos a1,if_pos a1,if_neg (fun h=>a2 h.1)]
  ·rw[if_neg a1,if_neg a1,if_neg a2,if_neg a3]
 ·have hl:¬p<O.size:=by omega
  simp only[ak,if_neg hl]
theorem KM{O:U}{p f:Nat}{ao:Bool}{line aM:Int}{st s:St}(e:s=st.read line (ak O line (f+1) ao p aM st.ab))(hc:iP O p):Std O p s∧s.ab=st.ab:=by
 rw[NH hc]at e
 by_cases hl:p<O.size
 ·rw[if_pos hl]at e
  have rQ:∃r w,bA O p r w:=by
   rcases hc with h|h
   ·exact h
   ·omega
  obtain⟨r,w,rQ⟩:=rQ
  by_cases hb:(O.get! p).toNat<128
  ·rw[if_pos hb]at e
   rw[e]
   rcases rQ.ch with⟨a1,a2,a3,a4⟩|⟨a1,a2,a3,a4,a5⟩
   ·exact⟨⟨rfl,rfl,.inl (cM hl a1 a2)⟩,rfl⟩
   ·exact absurd hb a1
  ·rw[if_neg hb]at e
   rw[e]
   rcases rQ.ch with⟨a1,a2,a3,a4⟩|⟨a1,a2,a3,a4,a5⟩
   ·exact absurd a1 hb
   ·exact⟨⟨rfl,rfl,.inl ⟨hl,.inr ⟨a1,a2,a3,rfl,rfl⟩⟩⟩,rfl⟩
 ·rw[if_neg hl]at e
  rw[e]
  have:p=O.size:=by
   rcases hc with⟨r,w,h⟩|h
   ·exact absurd h.lt hl
   ·exact h
  exact⟨⟨rfl,rfl,.inr ⟨this,rfl,rfl⟩⟩,rfl⟩
theorem w9{O:U}{p:Nat}{st:St}(hp:st.p=p)(hc:iP O p):Std O p (aa O st)∧(aa O st).ab=st.ab:=by
 subst hp
 exact KM (f:=O.size) rfl hc
def rR(O:U):Nat:=if 0<O.size∧(Utf8.decode O 0).1=65279 then(Utf8.decode O 0).2 else 0
theorem ic{O:U}{p:Nat}(h:(O.get! p).toNat<128):Utf8.decode O p=((O.get! p).toNat,1):=by
 have h':(O.get! (p+0)).toNat<128:=h
 unfold Utf8.decode
 simp only[h',if_true]
 rfl
theorem RN{O:U}{st:St}(h32:st.ch=32)(hf:st.ao=true)(hp:st.p=0)(hb:0<rR O)(hl:st.aC=0)(hc:st.aL=0)(hw:st.bD=0)(h:iP O (rR O)):Std O (rR O) (aa O st)∧(aa O st).ab=st.ab:=by
 have fm:0<O.size∧(Utf8.decode O 0).1=65279:=by
  unfold rR at hb
  split at hb
  ·assumption
  ·omega
 have eb:rR O=(Utf8.decode O 0).2:=by unfold rR;rw[if_pos fm]
 have e1:aB st=0:=by unfold aB;rw[if_neg (by rw[h32];decide),hl]
 have e2:aS st=0:=by unfold aS;rw[if_neg (by rw[h32];decide),hc,hw];rfl
 have n128:¬(O.get! 0).toNat<128:=fun hh=>by have:=fm.2;rw[ic hh]at this;simp only at this;omega
 refine KM (f:=O.size-1) (p:=rR O) (ao:=false) (line:=0) (aM:=u64 (0+(Utf8.decode O 0).2)) ?_ h
 show st.read (aB st) (ak O (aB st) (O.size+1) st.ao st.p (aS st) st.ab)=_
 rw[e1,e2,hp,hf,ak,if_pos fm.1,if_neg n128,if_neg (by rw[fm.2];exact fun hh=>absurd hh.1 (by decide)),if_pos fm.2,if_neg (by decide),Nat.zero_add,←eb,show O.size-1+1=O.size by omega]
theorem cv{O:U}{p:Nat}{st:St}(h:Std O p st)(hc:iP O (p+st.bD)):Std O (p+st.bD) (aa O st)∧(aa O st).ab=st.ab:=w9 h.here hc
inductive Cl(O:U):Nat->List Int->Nat->Prop
 |nil {p:Nat}:Cl O p [] p
 |cons {p w q:Nat} {r:Int} {cs:List Int}:bA O p r w->Cl O (p+w) cs q->Cl O p (r::cs) q
theorem Cl.app{O:U}{p q s:Nat}{cs ds:List Int}(h:Cl O p cs q)(h':Cl O q ds s):Cl O p (cs++ds) s:=by
 induction h with
 |nil=>exact h'
 |cons h1 h2 ih=>exact .cons h1 (ih h')
theorem Cl.le{O:U}{p q:Nat}{cs:List Int}(h:Cl O p cs q):p+cs.length<=q:=by
 induction h with
 |nil=>simp
 |cons h1 h2 ih=>have:=h1.w.1;simp only[List.length_cons];omega
theorem Cl.jq{O:U}{p q:Nat}{cs:List Int}(h:Cl O p cs q)(hq:iP O q):iP O p:=by
 cases h with
 |nil=>exact hq
 |cons h1 h2=>exact .inl ⟨_,_,h1⟩
theorem Cl.snoc{O:U}{p q:Nat}{cs:List Int}(h:Cl O p cs q){r:Int}{w:Nat}(hc:bA O q r w):Cl O p (cs++[r]) (q+w):=h.app (.cons hc .nil)
structure jC(O:U)(a b:St):Prop where
 on:On O a b
 ab:b.ab=a.ab
theorem jC.refl(O:U)(a:St):jC O a a:=⟨On.refl _ _,rfl⟩
theorem jC.trans{O:U}{a b c:St}(h:jC O a b)(h':jC O b c):jC O a c:=⟨h.on.trans h'.on,h'.ab.trans h.ab⟩
theorem jC.bm{O:U}{a b:St}(h:jC O a b):b={a with ao:=b.ao,p:=b.p,bD:=b.bD,aC:=b.aC,aL:=b.aL,ch:=b.ch}:=by
 have:=h.on.bm
 rw[h.ab]at this
 exact this
theorem dA{O:U}{p:Nat}{st:St}(h:Std O p st)(hc:iP O (p+st.bD)):jC O st (aa O st):=⟨aR _ _,(cv h hc).2⟩
theorem tz{O:U}{c:Int->Bool}(hc:c (-1)=false){p q:Nat}{cs:List Int}(h:Cl O p cs q):∀{st:St},(∀x∈cs,c x=true)->iP O q->(∀r w,bA O q r w->c r=false)->Std O p st->
 Std O q (skip O c st)∧jC O st (skip O c st):=by
 induction h with
 |@nil p=>
  intro st _ hq hs bn
  have:¬c st.ch=true:=by
   rcases bn.ch with h|⟨_,h,_⟩
   ·rw[hs _ _ h];simp
   ·rw[h,hc];simp
  rw[jK O c hc,if_neg this]
  exact⟨bn,jC.refl _ _⟩
 |@cons p w q r cs h1 h2 ih=>
  intro st ha hq hs bn
  obtain⟨e1,e2⟩:=bn.of h1
  rw[jK O c hc,if_pos (by rw[e1];exact ha r (by simp))]
  have hn:=cv bn (by rw[e2];exact h2.jq hq)
  have hsl:=dA bn (by rw[e2];exact h2.jq hq)
  rw[e2]at hn
  obtain⟨g1,g2⟩:=ih (fun x hx=>ha x (by simp[hx])) hq hs hn.1
  exact⟨g1,hsl.trans g2⟩
def gv(O:U)(nl:Bool)(st:St):St×List Value:=cC (kv O nl) (left O) (mw,[]) st
theorem cR(O:U)(st:St):aK O st=gv O st.au {st with au:=false}:=rfl
def wy(O:U)(nl:Bool):Fin->St×List Value
 | .done s bx=>(s,bx)
 | .fP s=>gv O nl s
 | .zN s=>(lP O s,[])
def iN:Fin:= .done mw []
theorem FE{O:U}{nl:Bool}(hs:O.size<=2048)(a:St)(h:fQ O a):(kv O nl a).aD (Bj (fQ O) (left O) a):=by
 unfold kv
 rw[ax]
 refine an (jA h hs) (fun f hf=> ?_)
 cases f with
 |done s bx=>trivial
 |fP s=>exact⟨.inl hf.1,hf.2.2.1⟩
 |zN s=>trivial
theorem dB{O:U}{nl:Bool}{st:St}(h:fQ O st)(hs:O.size<=2048):gv O nl st=wy O nl ((iY O nl st).get iN):=by
 unfold gv
 rw[ei (I:=fQ O) (fun a ha=>FE hs a ha) h (.out (mw,[]))]
 unfold kv
 rw[get_bind (jA h hs) _ _ iN]
 cases(iY O nl st).get iN with
 |done s bx=>rfl
 |fP s=>rfl
 |zN s=>rfl
def Go(O:U)(p:Nat)(st:St):Prop:=Std O p st∨(st.ch=32∧(st.p=p∨(st.ao=true∧st.p=0∧0<p∧p=rR O∧st.aC=0∧st.aL=0∧st.bD=0)))
theorem Go.same{O:U}{p:Nat}{a b:St}(h:Go O p a)(e1:b.ao=a.ao)(e2:b.p=a.p)(e3:b.bD=a.bD)(e4:b.ch=a.ch)(e5:b.aC=a.aC:=by rfl)(e6:b.aL=a.aL:=by rfl):Go O p b:=by
 rcases h with h|⟨h1,h⟩
 ·exact .inl (h.same e1 e2 e3 e4)
 ·refine .inr ⟨e4.trans h1,?_⟩
  rw[e1,e2,e3,e5,e6];exact h
theorem Br{O:U}{nl:Bool}{p q:Nat}{cs:List Int}{st:St}(hg:Go O p st)(hp:p<=O.size)(h:Cl O p cs q)(hb:∀x∈cs,aI nl x=true)(hq:iP O q)(hs:∀r w,bA O q r w->aI nl r=false):
 Std O q (skip O (aI nl) st)∧jC O st (skip O (aI nl) st):=by
 have c1:aI nl (-1)=false:=by cases nl<;>rfl
 rcases hg with hg|⟨h32,he⟩
 ·exact tz c1 h hb hq hs hg
 ·have hn:Std O p (aa O st)∧(aa O st).ab=st.ab:=by
   rcases he with he|⟨b1,b2,b3,b4,b5,b6,b7⟩
   ·exact w9 he (h.jq hq)
   ·subst b4;exact RN h32 b1 b2 b3 b5 b6 b7 (h.jq hq)
  rw[jK O (aI nl) c1,if_pos (by rw[h32];cases nl<;>rfl)]
  obtain⟨g1,g2⟩:=tz c1 h hb hq hs hn.1
  exact⟨g1,(⟨aR _ _,hn.2⟩:jC O st (aa O st)).trans g2⟩
structure wz(O:U)(q:Nat)(st n:St):Prop where
 gQ:Std O q n
 b:n.b=some q
 ab:n.ab=st.ab
 nl:n.au=st.au
 mode:n.mode=st.mode
 eq:∃bl nl,n=gC bl (skip O (aI nl) (stop st))
theorem kL{O:U}{nl:Bool}{p q:Nat}{cs:List Int}{st:St}(hg:Go O p st)(hp:p<=O.size)(h:Cl O p cs q)(hb:∀x∈cs,aI nl x=true)(hq:iP O q)(hs:∀r w,bA O q r w->aI nl r=false):
 ∃n,wz O q st n∧iY O nl st=A8 O (fun s=>Fin.done s []) (jM O nl) n:=by
 obtain⟨g1,g2⟩:=Br (hg.same (b:=stop st) rfl rfl rfl rfl) hp h hb hq hs
 have k:=g2.bm
 refine⟨gC (decide (u64 (1+(skip O (aI nl) (stop st)).aC)>u64 (1+st.aC))||u64 (1+st.aL)==1) (skip O (aI nl) (stop st)),⟨g1.same rfl rfl rfl rfl,?_,g2.ab,?_,?_,_,_,rfl⟩,rfl⟩
 ·show some _=some q
  rw[g1.cut]
 ·show(skip O (aI nl) (stop st)).au=_
  rw[k];rfl
 ·show(skip O (aI nl) (stop st)).mode=_
  rw[k];rfl
theorem Bs{O:U}{D:St->Fin}{K:St->af Fin}{n:St}(h1:cj n.ch=false)(h2:n.ch<128)(d:Fin):(A8 O D K n).get d=(K n).get d:=by
 have:decide (n.ch>=128)=false:=by simp;omega
 simp only[A8,af.get,h1,this,cond_false,Bool.false_eq_true,if_false]
theorem WT{O:U}{nl:Bool}{p q:Nat}{cs:List Int}{st:St}(eJ:O.size<=2048)(IW:fQ O st)(hg:Go O p st)(hp:p<=O.size)(h:Cl O p cs q)(hb:∀x∈cs,aI nl x=true){r:Int}
 (hr:(∃w,bA O q r w)∨(q=O.size∧r= -1))(hs:aI nl r=false)(h1:cj r=false)(h2:r<128):
 ∃n,wz O q st n∧n.ch=r∧gv O nl st=wy O nl ((jM O nl n).get iN):=by
 have hq:iP O q:=by
  rcases hr with⟨w,hc⟩|hc
  ·exact .inl ⟨_,_,hc⟩
  ·exact .inr hc.1
 obtain⟨n,hn,e⟩:=kL hg hp h hb hq (fun r' w' hc=>by
  rcases hr with⟨w,rQ⟩|rQ
  ·rw[(hc.uniq rQ).1];exact hs
  ·have:=hc.lt;omega)
 have kE:n.ch=r:=by
  rcases hr with⟨w,rQ⟩|⟨rQ,OS⟩
  ·exact(hn.gQ.of rQ).1
  ·have:=hn.gQ;rw[rQ]at this;rw[this.end.1,OS]
 refine⟨n,hn,kE,?_⟩
 rw[dB IW eJ,e,Bs (by rw[kE];exact h1) (by rw[kE];exact h2)]
inductive mA(O:U):St->List St->St->Prop
 |done {st:St}:(aK O st).1.tok=1->mA O st [(aK O st).1] (aK O st).1
 |more {st e:St} {L:List St}:(aK O st).1.tok≠1->mA O (aK O st).1 L e->mA O st ((aK O st).1::L) e
theorem mA.told{O:U}{st e:St}{L:List St}(h:mA O st L e):∀(n:Nat),Iv O st->fz O st<n->lz O n st=L∧qF O n st=e:=by
 induction h with
 |@done st h=>
  intro n hI hn
  obtain⟨m,rfl⟩:∃m,n=m+1:=⟨n-1,by omega⟩
  rw[lz,qF,if_pos h,if_pos h]
  exact⟨rfl,rfl⟩
 |@more st e L h1 h2 ih=>
  intro n hI hn
  obtain⟨m,rfl⟩:∃m,n=m+1:=⟨n-1,by omega⟩
  obtain⟨gy,_,_,bz⟩:=jP hI
  have:=bz h1
  obtain⟨g1,g2⟩:=ih m gy (by omega)
  rw[lz,qF,if_neg h1,if_neg h1]
  exact⟨by rw[g1],g2⟩
theorem mA.all{O:U}{m:Int}{e:St}{L:List St}(hs:O.size<=2048)(h:mA O (jj m) L e):iZ O m=L∧last O m=e:=by
 unfold iZ last
 exact h.told _ (j9 O m hs) (Nat.lt_succ_self _)
theorem FF{O:U}{body:St×Bool->af (Step (St×Bool) (St×Bool))}(LP:∀p,(body p).aD fun s=>match s with
 | .go a'=>On O p.1 a'.1∧Ab O a'<Ab O p
 | .out q=>On O p.1 q.1)(p:St×Bool):(body p).aD (Bj (fun _=>True) (Ab O) p):=
 an (LP p) (fun s hs=>by
  cases s with
  |go a'=>exact⟨trivial,hs.2⟩
  |out q=>trivial)
theorem pq(O:U)(st:St)(ok:Bool):mW O (st,ok)=
 if st.ch=96 then(aa O st,ok)else if st.ch<0 then(bF 0 CL st,false)else mW O (aa O st,ok):=by
 unfold mW
 rw[ei (I:=fun _=>True) (fun a _=>FF (wN O) a) trivial (.out (mw,false))]
 unfold Iw
 by_cases h1:st.ch=96
 ·simp[af.get,cG,h1]
 ·by_cases h2:st.ch<0
  ·simp[af.get,cG,h1,h2]
  ·simp[af.get,cG,h1,h2]
theorem RO{O:U}{p q:Nat}{cs:List Int}(h:Cl O p cs q):∀{st:St} (ok:Bool),(∀x∈cs,x≠96)->bA O q 96 1->iP O (q+1)->Std O p st->
 ∃aO,mW O (st,ok)=(aO,ok)∧Std O (q+1) aO∧jC O st aO:=by
 induction h with
 |@nil p=>
  intro st ok _ vX hc bn
  obtain⟨e1,e2⟩:=bn.of vX
  rw[pq,if_pos e1]
  have hn:=cv bn (by rw[e2];exact hc)
  have hs:=dA bn (by rw[e2];exact hc)
  rw[e2]at hn
  exact⟨_,rfl,hn.1,hs⟩
 |@cons p w q r cs h1 h2 ih=>
  intro st ok ha vX hc bn
  obtain⟨e1,e2⟩:=bn.of h1
  have hw:=h1.w
  have c2:iP O (p+w):=h2.jq (.inl ⟨_,_,vX⟩)
  have hn:=cv bn (by rw[e2];exact c2)
  have hs:=dA bn (by rw[e2];exact c2)
  rw[e2]at hn
  rw[pq,if_neg (by rw[e1];exact ha r (by simp)),if_neg (by rw[e1];omega)]
  obtain⟨aO,g1,g2,g3⟩:=ih ok (fun x hx=>ha x (by simp[hx])) vX hc hn.1
  exact⟨aO,g1,g2,hs.trans g3⟩
theorem RP{O:U}:∀(k:Nat) (st:St) (ok:Bool),left O st<=k->(∀i,st.p-st.bD<=i->i<O.size->(O.get! i).toNat≠96)->Pos O st->st.ab.length<(mW O (st,ok)).1.ab.length:=by
 intro k
 induction k with
 |zero=>
  intro st ok hk hn hp
  have kE:st.ch= -1:=by
   by_cases h:st.ch= -1
   ·exact h
   ·unfold left at hk;rw[if_neg h]at hk;omega
  rw[pq,if_neg (by rw[kE];decide),if_pos (by rw[kE];decide)]
  show st.ab.length<(st.ab++[_]).length
  simp
 |succ k ih=>
  intro st ok hk hn hp
  by_cases h1:st.ch<0
  ·rw[pq,if_neg (by omega),if_pos h1]
   show st.ab.length<(st.ab++[_]).length
   simp
  ·have n96:st.ch≠96:=by
    intro vX
    have hb:=hp.byte (by omega) (by omega)
    have hw:=hp.QE (by omega)
    have Cs:=hp.pos (by omega)
    have:=hp.w;have:=hp.n
    exact hn (st.p-1) (by omega) (by omega) (by omega)
   rw[pq,if_neg n96,if_neg h1]
   have hl:=aQ O st (by omega)
   have h2:=(aR O st).pos hp
   have h3:=(aR O st).len
   have:=ih (aa O st) ok (by omega) (fun i hi yU=>hn i (by omega) yU) h2.1
   omega
theorem FG{O:U}{st:St}(hI:Iv O st):st.ab.length<=(aK O st).1.ab.length:=by
 obtain⟨l,hl⟩:=(jB hI.pos hI.sz).2.1.ab
 rw[hl,List.length_append];omega
theorem WU(O:U)(m:Int):fQ O (jj m):= .inr ⟨rfl,Nat.zero_le _⟩
theorem Ai{A:Ad}{st:St}{w:World}{o:Nat}{u:Value}(h:jm A st w)(hg:Mz st o=some (.val u)):w.cell? ⟨A.s,o,none⟩=some u:=by
 obtain⟨v,hv,hr⟩:=Kf h hg
 have:v=u:=hr []
 rw[hv,this]
def lB(o:Int):U:=if o=0 then RD else RB o.toNat
def eY(st:St):List Value:=[.int .u64 st.line,.int .u64 st.aM,.bool st.blank,.string (aH st.tok.toNat),.string st.lit,.bool st.bad,.int .i64 (IntKind.i64.wrap st.kind),.string (lB st.op),.int .i64 st.prec]
theorem RQ(w:World)(h:∀i,i<24->w.cell? ⟨1,i,none⟩=some (.int .u8 ([0,1,2,4,5,7,9,11,13,14,16,17,19,20,21,22,23,24,25,26,27,29,31,33].getD i 0)))(o:Int)(h1:0<=o)(h2:o<=23):
 Calls Tryz.prog 50 #[.int .u64 o] w fun e w'=>e= .returned (.string (lB o))∧∃m,w'=w.drewN m:=by
 unfold lB
 by_cases h0:o=0
 ·rw[if_pos h0,h0];exact aeS w
 ·rw[if_neg h0]
  have:=WG w h o.toNat (by omega) (by omega)
  rw[show((o.toNat:Nat):Int)=o by omega]at this
  exact this
theorem NI(w:World)(h:∀i,i<48->w.cell? ⟨0,i,none⟩=some (.int .u8 ([0,3,7,14,16,19,23,24,26,28,29,30,31,32,33,34,35,36,37,38,39,42,47,51,55,60,68,75,80,84,95,98,102,104,108,110,116,125,128,135,140,146,152,158,164,168,171,171].getD i 0)))(t:Int)(h1:1<=t)(h2:t<=46):
 Calls Tryz.prog 49 #[.int .u64 t] w fun e w'=>e= .returned (.string (aH t.toNat))∧∃m,w'=w.drewN m:=by
 have:=RC w h t.toNat (by omega) (by omega)
 rw[show((t.toNat:Nat):Int)=t by omega]at this
 exact this
abbrev lC:Code:=av Tryz.f30
abbrev w_:Code:=a_ (aX lC 0)
abbrev uL:Code:=aX lC 1
theorem RR:w_= .block 1 uL:=by kernel_rfl
structure jD(w:World):Prop where
 tok:∀i,i<48->w.cell? ⟨0,i,none⟩=some (.int .u8 ([0,3,7,14,16,19,23,24,26,28,29,30,31,32,33,34,35,36,37,38,39,42,47,51,55,60,68,75,80,84,95,98,102,104,108,110,116,125,128,135,140,146,152,158,164,168,171,171].getD i 0))
 op:∀i,i<24->w.cell? ⟨1,i,none⟩=some (.int .u8 ([0,1,2,4,5,7,9,11,13,14,16,17,19,20,21,22,23,24,25,26,27,29,31,33].getD i 0))
theorem jD.drewN{w:World}(h:jD w)(n:Nat):jD (w.drewN n):=⟨h.tok,h.op⟩
theorem jD.drew{w:World}(h:jD w):jD w.drew:=⟨h.tok,h.op⟩
theorem jD.cells{w w':World}(h:jD w)(h1:w'.heap[0]? =w.heap[0]?)(h2:w'.heap[1]? =w.heap[1]?):jD w':=
 ⟨fun i hi=>by rw[World.cell?_of_block (w:=w) (a:=⟨0,i,none⟩) h1];exact h.tok i hi,fun i hi=>by rw[World.cell?_of_block (w:=w) (a:=⟨1,i,none⟩) h2];exact h.op i hi⟩
theorem jD.lt{w:World}(h:jD w):0<w.heap.size∧1<w.heap.size:=
 ⟨World.block_lt_of_cell? w _ (h.tok 0 (by decide)),World.block_lt_of_cell? w _ (h.op 0 (by decide))⟩
theorem jD.alloc{w:World}(h:jD w)(o:Obj):jD (w.alloc o):=
 h.cells (Below.heap_alloc _ _ _ h.lt.1) (Below.heap_alloc _ _ _ h.lt.2)
theorem jD.grown{w w':World}{row:Option Nat}(h:jD w)(hg:w.grownBy w' row)(h1:some 0≠row)(h2:some 1≠row):jD w':=
 h.cells (hg.block _ h.lt.1 h1) (hg.block _ h.lt.2 h2)
theorem RS:(Tryz.prog.info? 68).map (fun i=>(i.zero,i.size,i.bytes))=some (some (.agg #[.int .u64 0,.int .u64 0,.bool false,.string ⟨#[]⟩,.string ⟨#[]⟩,.bool false,.int .i64 0,.string ⟨#[]⟩,.int .i64 0]),9,96):=by kernel_rfl
theorem Bt{w:World}{base n:Nat}{e:TypeId}{sz:Nat}{v:Value}{xs:List Value}(h:w.ownsRow base e sz v n xs)(m:Nat):(w.drewN m).ownsRow base e sz v n xs:=h
theorem abu{w:World}{k base n:Nat}{v:Value}{xs:List Value}{st:St}(bo:w.ownsRow base 68 9 v n xs)(cN:base<=w.heap.size)(hn:n<=1000000)
 {ops:Array Oper}{o:Oper}{a:Act}{K:Act->World->Prop}{Q:Exit->Act->World->Prop}{E:Prop}(DR:o.guard=none)(s x:Operand)
 (ho:o.op= .call {callee:= .builtin .append,args:=#[s,x],argTypes:=#[62,62]})(hs:a.eval s=v)(hx:a.eval x= .slice (some ⟨w.heap.size,0,none⟩) 1 1)
 (h:∀g cap w',w'.ownsRow base 68 9 (.slice (some ⟨g,0,none⟩) (n+1) cap) (n+1) (xs++eY st)->((w.drewN k).alloc (.cells (eY st).toArray 68)).grownBy w' v.ownBlock->(v.ownBlock=some g∨g=w.heap.size+1)->g<w'.heap.size->K (a.put o.dst (.slice (some ⟨g,0,none⟩) (n+1) cap)) w'):
 if Region.wanted o (yielded ops a.tmps)=true then Oper.wp Tryz.prog o a ((w.drewN k).alloc (.cells (eY st).toArray 68)) K Q else E:=by
 obtain⟨i0,FH,Eh,L5,HU⟩:=info_parts RS
 have eJ:((w.drewN k).alloc (.cells (eY st).toArray 68)).heap.size=w.heap.size+1:=by simp
 have hlen:(eY st).length=9:=rfl
 have hml:n+1<=maxLen:=by simp only[maxLen];omega
 have Cc:∀u∈eY st,u.oneCell'=true:=by simp[eY,Value.oneCell']
 exact step_append_lies _ DR s x 62 ho base 68 i0 _ 9 96 Tryz.underlying62 FH Eh L5 HU rfl (by omega) v n xs hs (fW (Bt bo k) _)
  ⟨w.heap.size,0,none⟩ 1 1 (eY st) hx hlen (World.news_of_block (cs:=(eY st).toArray) (t:=68) (fr:=(0,0)) (heap_alloc_new (w.drewN k) _)) Cc
  (by omega) hml (by omega) (by rw[eJ];omega) (w.heap.size+1) eJ h
structure ZA(A:Ad)(v:Value)(a:Act):Prop where
 defers:a.defers=[]
 size:a.tmps.size=46
 e:a.tmps[6]? =some (.pointer (some ⟨A.e,0,none⟩))
 s:a.tmps[7]? =some (.pointer (some ⟨A.s,0,none⟩))
 v:a.tmps[8]? =some v
theorem abw(t:Array Value)(h:t.size=46):t=((List.range 46).map fun i=>t.getD i undef).toArray:=by
 apply Array.ext_getElem?
 intro i
 simp only[List.getElem?_toArray,List.getElem?_map]
 by_cases hi:i<46
 ·rw[List.getElem?_range hi]
  simp[h,hi]
 ·rw[Array.getElem?_eq_none (by omega),List.getElem?_eq_none (by simp;omega)];rfl
theorem ZA.lit{A:Ad}{v:Value}{a:Act}(h:ZA A v a):∃x:Nat->Value,a={tmps:=#[x 0,x 1,x 2,x 3,x 4,x 5,.pointer (some ⟨A.e,0,none⟩),.pointer (some ⟨A.s,0,none⟩),v,x 9,x 10,x 11,x 12,x 13,x 14,x 15,x 16,x 17,x 18,x 19,x 20,x 21,x 22,x 23,x 24,x 25,x 26,x 27,x 28,x 29,x 30,x 31,x 32,x 33,x 34,x 35,x 36,x 37,x 38,x 39,x 40,x 41,x 42,x 43,x 44,x 45],defers:=[]}:=by
 refine⟨fun i=>a.tmps.getD i undef,?_⟩
 obtain⟨t,d⟩:=a
 obtain⟨h1,h2,h3,h4,h5⟩:=h
 simp only at h1 h2 h3 h4 h5
 subst h1
 have e6:t.getD 6 undef= .pointer (some ⟨A.e,0,none⟩):=by rw[Array.getD_eq_getD_getElem?,h3];rfl
 have e7:t.getD 7 undef= .pointer (some ⟨A.s,0,none⟩):=by rw[Array.getD_eq_getD_getElem?,h4];rfl
 have e8:t.getD 8 undef=v:=by rw[Array.getD_eq_getD_getElem?,h5];rfl
 have ht:=abw t h2
 rw[←e6,←e7,←e8]
 exact congrArg (fun t=>({tmps:=t,defers:=[]}:Act)) ht
theorem abx{A:Ad}{v:Value}(x:Nat->Value):ZA A v {tmps:=#[x 0,x 1,x 2,x 3,x 4,x 5,.pointer (some ⟨A.e,0,none⟩),.pointer (some ⟨A.s,0,none⟩),v,x 9,x 10,x 11,x 12,x 13,x 14,x 15,x 16,x 17,x 18,x 19,x 20,x 21,x 22,x 23,x 24,x 25,x 26,x 27,x 28,x 29,x 30,x 31,x 32,x 33,x 34,x 35,x 36,x 37,x 38,x 39,x 40,x 41,x 42,x 43,x 44,x 45],defers:=[]}:=⟨rfl,rfl,rfl,rfl,rfl⟩
def bQ:Code->Code
 | .seq a _=>a
 |_=> .skip
abbrev RT:Code:=bQ (ah 1 uL)
theorem aby:ah 1 uL= .seq RT (ah 2 uL):=by kernel_rfl
theorem abz{A:Ad}(hA:A.Ok){st:St}{w:World}(hI:jm A st w)(hT:jD w)(hk:Rk st)(v:Value)(n:Nat)(xs:List Value)(bo:w.ownsRow A.base 68 9 v n xs)(cN:A.base<=w.heap.size)(hn:n<=1000000)
 (a0:v.ownBlock≠some A.s)(a1:v.ownBlock≠some 0)(a2:v.ownBlock≠some 1)(Q:Exit->Act->World->Prop)(x:Nat->Value)
 (hQ:∀(k gg cap:Nat) (w1:World) (a:Act),w1.ownsRow A.base 68 9 (.slice (some ⟨gg,0,none⟩) (n+1) cap) (n+1) (xs++eY st)->((w.drewN k).alloc (.cells (eY st).toArray 68)).grownBy w1 v.ownBlock->(v.ownBlock=some gg∨gg=w.heap.size+1)->gg<w1.heap.size->jD w1->
   ZA A (.slice (some ⟨gg,0,none⟩) (n+1) cap) a->Q .normal a w1):
 RT.wp Tryz.prog Q {tmps:=#[x 0,x 1,x 2,x 3,x 4,x 5,.pointer (some ⟨A.e,0,none⟩),.pointer (some ⟨A.s,0,none⟩),v,x 9,x 10,x 11,x 12,x 13,x 14,x 15,x 16,x 17,x 18,x 19,x 20,x 21,x 22,x 23,x 24,x 25,x 26,x 27,x 28,x 29,x 30,x 31,x 32,x 33,x 34,x 35,x 36,x 37,x 38,x 39,x 40,x 41,x 42,x 43,x 44,x 45],defers:=[]} w:=by
 have c13:=Ai hI (o:=13) rfl
 have c14:=Ai hI (o:=14) rfl
 have c15:=Ai hI (o:=15) rfl
 have c16:=Ai hI (o:=16) rfl
 have c17:=Ai hI (o:=17) rfl
 have c18:=Ai hI (o:=18) rfl
 have c19:=Ai hI (o:=19) rfl
 have c20:=Ai hI (o:=20) rfl
 have c21:=Ai hI (o:=21) rfl
 obtain⟨⟨k1,k2⟩,k3,k4⟩:=hk
 have ls:=World.block_lt_of_cell? w _ c13
 clear hI
 simp only[RT,bQ,uL,lC,av,Tryz.f30,Option.getD,aX,ah,cO,Option.map,Nat.beq,cond]
 have hz:=fun v'=>abx (A:=A) (v:=v')
 generalize hs:A.s=s at*
 generalize A.base=base at*
 go_region_held3 (fun w'=>w'.cell? ⟨s,13,none⟩=some (.int .u64 st.line)∧w'.cell? ⟨s,14,none⟩=some (.int .u64 st.aM)∧w'.cell? ⟨s,15,none⟩=some (.bool st.blank)∧w'.cell? ⟨s,16,none⟩=some (.int .u64 st.tok)∧
  w'.cell? ⟨s,17,none⟩=some (.string st.lit)∧w'.cell? ⟨s,18,none⟩=some (.bool st.bad)∧w'.cell? ⟨s,19,none⟩=some (.int .u8 st.kind)∧w'.cell? ⟨s,20,none⟩=some (.int .u64 st.op)∧w'.cell? ⟨s,21,none⟩=some (.int .i64 st.prec)∧jD w')
  (first
    |(go_split_ands;refine⟨?_,?_,?_,?_,?_,?_,?_,?_,?_,?_⟩<;>first
       |exact jD.drew (by assumption)
       |exact jD.drewN (by assumption) _
       |exact jD.alloc (by assumption) _
       |(go_keep;done)
       |(rw[fR.cell_far _ (by simp;omega) (Ne.symm a0)];assumption)
       |exact jD.grown (by assumption) fR (Ne.symm a1) (Ne.symm a2)))
  (first
    |(go_at_call 49;go_split_ands;refine(NI _ (jD.tok (by assumption)) st.tok k1 k2).mono ?_;rintro en w' ⟨rfl,m,rfl⟩)
    |(go_at_call 50;go_split_ands;refine(RQ _ (jD.op (by assumption)) st.op k3 k4).mono ?_;rintro en w' ⟨rfl,m,rfl⟩)
    |(refine abu (st:=st) bo cN hn (by rfl) _ _ (by rfl) (by rfl) (by rfl) ?_;intro gg cap w1 l8 fR oT bz))
 go_split_ands
 exact hQ _ gg cap w1 _ l8 fR oT bz (by assumption) ⟨rfl,rfl,rfl,by rw[hs];rfl,rfl⟩
theorem abA{A:Ad}{st:St}{w:World}(hI:jm A st w)(v:Value)(a:Act)(hz:ZA A v a)(Q:Exit->Act->World->Prop)
 (h1:st.tok≠1->∀a',ZA A v a'->Q .normal a' w)
 (h2:st.tok=1->∀ve a' w',w'.heap=w.heap->w'.os=w.os->w'.tape=w.tape->w'.output=w.output->w.cell? ⟨A.e,0,none⟩=some ve->a'.defers=[]->a'.tmps[4]? =some v->a'.tmps[5]? =some ve->Q .ret a' w'):
 (ah 2 uL).wp Tryz.prog Q a w:=by
 obtain⟨x,rfl⟩:=hz.lit
 have c16:=Ai hI (o:=16) rfl
 obtain⟨x0,hx,_⟩:=hI
 obtain⟨ve,hve,_⟩:=hx.he
 have ce:=ag hve (o:=0) (v:=ve) rfl
 have ls:=World.block_lt_of_cell? w _ c16
 clear hx hve
 simp only[uL,lC,av,Tryz.f30,Option.getD,aX,ah,cO,Option.map,Nat.beq,cond]
 generalize hs:A.s=s at*
 generalize he:A.e=e at*
 go_wp2
 ·rename_i ht K hK
  have ht1:st.tok=1:=by simpa using ht
  clear hz
  go_region_held3 (fun w'=>w'.cell? ⟨e,0,none⟩=some ve) (go_keep) (fail)
  all_goals (simp only[Exit.then];refine hK _ _ (wp_ret ?_);refine h2 ht1 ve _ _ ?_ ?_ ?_ ?_ ce ?_ ?_ ?_<;>rfl)
 ·rename_i ht
  exact h1 (by simpa using ht) _ ⟨rfl,rfl,by rw[he];rfl,by rw[hs];rfl,rfl⟩
theorem I7{A:Ad}(hA:A.Ok){st:St}{w:World}(hI:jm A st w)(hp:fQ A.O st)(hb:(aK A.O st).1.ab.length<zR):
 Calls Tryz.prog 48 #[.pointer (some ⟨A.s,0,none⟩)] w (fun e w'=>e= .returned (.tuple #[])∧jm A (aK A.O st).1 w'∧Fr (SY A) [] w w'):=by
 obtain⟨_,h,_⟩:=WB A hA
 have hc:fu (SY A) [] ⟨st,[]⟩ w:=⟨hI,rfl,List.nodup_nil,fun i b u h=>by simp at h,fun b h=>by simp at h⟩
 have hr:oM (SY A) [] w [.st 0] [.pointer (some ⟨A.s,0,none⟩)]:= .cons rfl .nil
 have:=h [.st 0] ⟨st,[]⟩ [] w [.pointer (some ⟨A.s,0,none⟩)] (fun p=>p=(unit,⟨(aK A.O st).1,(aK A.O st).2⟩)) hr hc ⟨⟨hp,hA.n1⟩,rfl⟩
 refine Calls.mono this ?_
 rintro e w' (⟨sv,c',v,dw,hq,rfl,hrel,hinv,bN,_⟩|⟨rfl,p,rfl,qo⟩)
 ·cases hq
  have hv:v= .tuple #[]:=hrel
  exact⟨by rw[hv],hinv.inv,bN.fr⟩
 ·exact absurd qo (Nat.not_le.2 hb)
theorem WV{A:Ad}{st:St}{w:World}(hI:jm A st w):jD w:=by
 obtain⟨x,hx,_⟩:=hI
 have hg:=hx.ok.jU
 have hs:=hg.size
 exact⟨fun i hi=>by rw[World.cell?_of_block (w:=A.w0) (a:=⟨0,i,none⟩) (hx.below.block _ (by show 0<_;omega))];exact hg.tix i hi,
  fun i hi=>by rw[World.cell?_of_block (w:=A.w0) (a:=⟨1,i,none⟩) (hx.below.block _ (by show 1<_;omega))];exact hg.oix i hi⟩
theorem dt{w:World}{base n:Nat}{e:TypeId}{sz:Nat}{v:Value}{xs:List Value}(h:w.ownsRow base e sz v n xs){k:Nat}(hk:v.ownBlock=some k):base<=k∧ij w k=some e∧k<w.heap.size:=by
 rcases h.2 with⟨rfl,_⟩|⟨g,cap,cur,rfl,hb,hh,_⟩
 ·simp[Value.ownBlock]at hk
 ·have:g=k:=by simpa[Value.ownBlock] using hk
  subst this
  exact⟨hb,cV hh,(Array.getElem?_eq_some_iff.1 hh).1⟩
theorem I8{A:Ad}{w:World}(n:Nat):Kept A w (w.drewN n):=
 ⟨⟨rfl,rfl,rfl,Nat.le_refl _,fun _ _=>rfl⟩,fun _ _ hu _ bo=>⟨hu,bo⟩,rfl,rfl,rfl,rfl,Nat.le_refl _⟩
theorem ng{w w':World}{base n:Nat}{e:TypeId}{sz:Nat}{v:Value}{xs:List Value}(h:w.ownsRow base e sz v n xs)(hb:∀k,v.ownBlock=some k->w'.heap[k]? =w.heap[k]?):w'.ownsRow base e sz v n xs:=by
 obtain⟨h1,h2⟩:=h
 refine⟨h1,?_⟩
 rcases h2 with h2|⟨g,cap,cur,hv,hg,hh,r⟩
 ·exact .inl h2
 ·exact .inr ⟨g,cap,cur,hv,hg,by rw[hb g (by rw[hv];rfl)];exact hh,r⟩
theorem I9{A:Ad}{x:Raw}{w w':World}{row:Option Nat}(h:fa A x w)(hg:w.grownBy w' row)(hr:∀k,row=some k->A.base<=k∧ij w k≠some 70):Kept A w w':=by
 have l1:=LW h
 have l2:=qU h
 have b0:=h.below.size
 have:=h.ok.mP;have:=h.ok.fv;have:=h.ok.dy;have:=h.gj;have:=h.ok.Eb;have:=h.ok.qT;have:=h.ok.J0
 have ne:∀k,k<A.base->some k≠row:=fun k hk e=>by have:=(hr k e.symm).1;omega
 have g:=fun k (hk:k<A.base)=>hg.block k (by omega) (ne k hk)
 refine⟨⟨hg.os,hg.tape,hg.output,hg.size,fun k hk=>g k (by omega)⟩,fun n u hu xs bo=>⟨by rw[g A.e (by omega)];exact hu,ng bo (fun k hk=> ?_)⟩,g _ (by omega),g _ (by omega),g _ (by omega),g _ (by omega),hg.size⟩
 obtain⟨h1,h2,h3⟩:=dt bo hk
 exact hg.block k h3 (fun e=>(hr k e.symm).2 h2)
theorem pY{A:Ad}{st:St}{w w':World}(h:jm A st w)(hk:∀x,fa A x w->Kept A w w'):jm A st w':=by
 obtain⟨x,hx,ha⟩:=h
 exact⟨x,hx.kept (hk x hx),ha⟩
theorem NJ{w:World}{o:Obj}{k:Nat}(h:k<w.heap.size):ij (w.alloc o) k=ij w k:=by unfold Ev.ij World.shape?;rw[Below.heap_alloc _ _ _ h]
theorem RU{A:Ad}{st:St}{w w1:World}{v:Value}{n k:Nat}{xs:List Value}{o:Obj}(hI:jm A st w)(bo:w.ownsRow A.base 68 9 v n xs)(hg:((w.drewN k).alloc o).grownBy w1 v.ownBlock):jm A st w1:=by
 have h1:jm A st (w.drewN k):=pY hI (fun _ _=>I8 k)
 have h2:jm A st ((w.drewN k).alloc o):=pY h1 (fun _ hx=>qV hx o)
 refine pY h2 (fun _ hx=>I9 hx hg (fun b hb=> ?_))
 obtain⟨g1,g2,g3⟩:=dt bo hb
 refine⟨g1,?_⟩
 rw[NJ (w:=w.drewN k) g3]
 show ij w b≠_
 rw[g2]
 decide
theorem abB{A:Ad}{w w1:World}{v:Value}{n:Nat}{xs:List Value}(hA:A.Ok)(hf:Fr (SY A) [] w w1)(bo:w.ownsRow A.base 68 9 v n xs)(hw:A.w0.heap.size<=A.base):w1.ownsRow A.base 68 9 v n xs:=by
 refine ng bo (fun k hk=> ?_)
 obtain⟨g1,g2,g3⟩:=dt bo hk
 have:=hA.mP;have:=hA.fv;have:=hA.dy;have:=hA.Eb;have:=hA.qT
 refine hf.bm k g3 ?_ (by simp)
 show¬(k<A.w0.heap.size∨k=A.s∨k=A.buf∨k=A.rd∨k=A.e∨k=A.sb∨(A.base<=k∧ij w k=some 70))
 rw[g2]
 simp only[not_or,not_and]
 exact⟨by omega,by omega,by omega,by omega,by omega,by omega,fun _=>by decide⟩
abbrev I_:Code:=bQ uL
theorem WW:uL= .seq I_ (ah 1 uL):=by kernel_rfl
theorem WX{A:Ad}(hA:A.Ok){st:St}{w:World}(hI:jm A st w)(hp:fQ A.O st)(hb:(aK A.O st).1.ab.length<zR)(v:Value)(a:Act)(hz:ZA A v a)(Q:Exit->Act->World->Prop)
 (hQ:∀a' w',ZA A v a'->jm A (aK A.O st).1 w'->Fr (SY A) [] w w'->Q .normal a' w'):I_.wp Tryz.prog Q a w:=by
 obtain⟨x,rfl⟩:=hz.lit
 have hN:=I7 hA hI hp hb
 clear hI
 simp only[I_,bQ,uL,lC,av,Tryz.f30,Option.getD,aX,cond,Nat.beq]
 clear hz
 go_wp2_with (refine hN.mono ?_;rintro en w' ⟨rfl,gy,hF⟩)
 exact hQ _ _ ⟨rfl,rfl,rfl,rfl,rfl⟩ gy hF
def flat{α β:Type}(f:α->List β):List α->List β
 |[]=>[]
 |s::l=>f s++flat f l
theorem iJ{α β:Type}(f:α->List β)(l k:List α):flat f (l++k)=flat f l++flat f k:=by
 induction l with
 |nil=>rfl
 |cons a l ih=>simp[flat,ih]
theorem nh{α β:Type}{f:α->List β}{k:Nat}(hf:∀a,(f a).length=k):∀(l:List α) (i j:Nat) (a:α),l[i]? =some a->j<k->(flat f l)[i*k+j]? =(f a)[j]?
 |[],i,j,a,h,_=>by simp at h
 |b::l,0,j,a,h,hj=>by
  simp only[List.getElem?_cons_zero,Option.some.injEq]at h
  subst h
  simp only[flat,Nat.zero_mul,Nat.zero_add]
  rw[List.getElem?_append_left (by rw[hf];exact hj)]
 |b::l,i+1,j,a,h,hj=>by
  simp only[List.getElem?_cons_succ]at h
  simp only[flat]
  rw[List.getElem?_append_right (by rw[hf,Nat.add_mul];omega),hf,show(i+1)*k+j-k=i*k+j by rw[Nat.add_mul];omega]
  exact nh hf l i j a h hj
abbrev rowOf:List St->List Value:=flat eY
def Nb(O:U)(st:St):Prop:=st.ab.length+7000*(fz O st+1)<=60000000
theorem WY{O:U}{st:St}(hI:Iv O st)(h:Nb O st):(aK O st).1.ab.length<=60000000∧((aK O st).1.tok≠1->Nb O (aK O st).1):=by
 obtain⟨gy,hk,ht,bz⟩:=jP hI
 have hc:=FC hI.pos hI.sz
 have hl:=(jB hI.pos hI.sz).2.1.left
 have ml:2*left O st<=fz O st:=by unfold fz;omega
 have mu:fz O st<=2*left O st+1:=by unfold fz;split<;>omega
 have ml':2*left O (aK O st).1<=fz O (aK O st).1:=by unfold fz;omega
 have mu':fz O (aK O st).1<=2*left O (aK O st).1+1:=by unfold fz;split<;>omega
 unfold Nb at h⊢
 exact⟨by omega,fun dH=>by have h2:=bz dH;omega⟩
theorem RV{O:U}(m:Int)(hs:O.size<=2048):Nb O (jj m):=by
 have h2:fz O (jj m)<=8196:=by
  have:left O (jj m)=2*(O.size-0)+1:=rfl
  unfold fz
  rw[if_neg (show¬(jj m).au=true from fun h=>by cases h)]
  omega
 have h3:(jj m).ab.length=0:=rfl
 unfold Nb;omega
structure Lp(A:Ad)(st:St)(v:Value)(n:Nat)(xs:List Value)(a:Act)(w:World):Prop where
 inv:jm A st w
 own:w.ownsRow A.base 68 9 v n xs
 za:ZA A v a
 iv:Iv A.O st
 nb:Nb A.O st
theorem KN{A:Ad}(hA:A.Ok)(Q:Exit->Act->World->Prop):∀(m:Nat) (st:St) (v:Value) (n:Nat) (xs:List Value) (a:Act) (w:World),Lp A st v n xs a w->fz A.O st<m->n+m<=1000000->
 (∀v' ve a' w',w'.ownsRow A.base 68 9 v' (n+(lz A.O m st).length) (xs++rowOf (lz A.O m st))->jm A (qF A.O m st) w'->w'.cell? ⟨A.e,0,none⟩=some ve->a'.defers=[]->a'.tmps[4]? =some v'->a'.tmps[5]? =some ve->Q .ret a' w')->
 Code.rounds Tryz.prog w_ (Exit.inBlock 0 Q) m a w
 |0,_,_,_,_,_,_,_,h,_,_=>absurd h (Nat.not_lt_zero _)
 |m+1,st,v,n,xs,a,w,h,hm,hn,hQ=>by
  obtain⟨gy,hk,_,bz⟩:=jP h.iv
  obtain⟨hb,wm⟩:=WY h.iv h.nb
  have fX:(aK A.O st).1.ab.length<zR:=by unfold zR;omega
  have OV:A.w0.heap.size<=A.base:=by have:=hA.mP;have:=hA.fv;have:=hA.dy;have:=hA.UX;omega
  have h20:=hA.jU.size
  rw[rounds_succ,RR]
  refine wp_block ?_
  rw[WW]
  refine wp_seq (WX hA h.inv h.iv.pos fX v a h.za _ (fun a1 w1 z1 i1 f1=> ?_))
  show(ah 1 uL).wp _ _ a1 w1
  have abC:=abB hA f1 h.own OV
  rw[aby]
  obtain⟨x,rfl⟩:=z1.lit
  have cN:A.base<=w1.heap.size:=by obtain⟨x0,hx,_⟩:=i1;exact hx.gj
  have ne:∀k,k<A.base->v.ownBlock≠some k:=fun k hk e=>by have:=(dt abC e).1;omega
  refine wp_seq (abz hA i1 (WV i1) hk v n xs abC cN (by omega) (ne _ (by have:=hA.mP;have:=hA.fv;have:=hA.dy;omega)) (ne _ (by show 0<_;omega)) (ne _ (by show 1<_;omega)) _ x (fun k gg cap w2 a2 WZ grow oT lt ajt z2=> ?_))
  show(ah 2 uL).wp _ _ a2 w2
  have i2:=RU i1 abC grow
  refine abA i2 _ a2 z2 _ (fun dH a3 z3=> ?_) (fun he ve a3 w3 e1 e2 e3 e4 ce d0 d4 d5=> ?_)
  ·show Code.rounds Tryz.prog w_ (Exit.inBlock 0 Q) m a3 w2
   refine KN hA Q m (aK A.O st).1 _ (n+1) (xs++eY (aK A.O st).1) a3 w2 ⟨i2,WZ,z3,gy,wm dH⟩ (by have:=bz dH;omega) (by omega) (fun v' ve a' w' o1 o2 o3 o4 o5 o6=>hQ v' ve a' w' ?_ ?_ o3 o4 o5 o6)
   ·rw[lz,if_neg dH]
    simp only[rowOf,flat,List.length_cons]
    rw[show n+((lz A.O m (aK A.O st).1).length+1)=n+1+(lz A.O m (aK A.O st).1).length by omega,←List.append_assoc]
    exact o1
   ·rw[qF,if_neg dH];exact o2
  ·show Q .ret a3 w3
   have hB:Below w2.heap.size w2 w3:=⟨e2,e3,e4,by rw[e1];exact Nat.le_refl _,fun k _=>by rw[e1]⟩
   refine hQ _ ve a3 w3 ?_ ?_ ?_ d0 d4 d5
   ·rw[lz,if_pos he]
    simp only[rowOf,flat,List.length_cons,List.length_nil,List.append_nil]
    exact iH hB WZ
   ·rw[qF,if_pos he];exact pY i2 (fun _ hx=>kU hx hB)
   ·rw[World.cell?_of_block (w:=w2) (a:=⟨A.e,0,none⟩) (by show w3.heap[A.e]? =w2.heap[A.e]?;rw[e1])];exact ce
abbrev zz0:Code:=bQ (ah 0 lC)
abbrev zz1:Code:=bQ (ah 1 lC)
abbrev zz2:Code:=bQ (ah 2 lC)
abbrev zz3:Code:=bQ (ah 3 lC)
abbrev zz4:Code:=bQ (ah 4 lC)
theorem W0:(Tryz.f30).body=some (.seq zz0 (.seq zz1 (.seq zz2 (.seq zz3 (.seq zz4 (.block 0 (.loop w_))))))):=by kernel_rfl
theorem RW(w:World):(OZ w).heap.size=w.heap.size+2:=by simp[OZ,WI]
theorem ahU(w:World)(sb n cb:Nat):Calls Tryz.prog 46 #[.slice (some ⟨sb,0,none⟩) n cb] (OZ w) fun en w'=>en= .returned (.pointer (some ⟨w.heap.size+2,0,none⟩))∧w'=Fp w sb n cb:=by
 have h:=yP (OZ w) (.slice (some ⟨sb,0,none⟩) n cb) rfl ⟨_,_,_,rfl⟩
 rw[RW]at h
 exact h
theorem ae3(w:World)(sb n cb:Nat)(m:Int):Calls Tryz.prog 45 #[.pointer (some ⟨w.heap.size+1,0,none⟩),.iface 92 (.pointer (some ⟨w.heap.size+2,0,none⟩)),.func (.func 47) #[] #[.pointer (some ⟨w.heap.size,0,none⟩)],.int .u64 m] (Fp w sb n cb) fun en w'=>en= .returned (.tuple #[])∧w'=Fq w sb n cb m:=
 Ny (Fp w sb n cb) (w.heap.size+1) (w.heap.size+2) w.heap.size m (Zy _ _ _ _)
theorem RX(w:World)(sb n cb:Nat)(m:Int)(B:Code)(Q:Exit->Act->World->Prop)
 (hQ:∀a,a.defers=[]->a.tmps.size=46->a.tmps[6]? =some (.pointer (some ⟨w.heap.size,0,none⟩))->a.tmps[7]? =some (.pointer (some ⟨w.heap.size+1,0,none⟩))->a.tmps[8]? =some (.slice none 0 0)->B.wp Tryz.prog Q a (Fq w sb n cb m)):
 (Code.seq zz0 (.seq zz1 (.seq zz2 (.seq zz3 (.seq zz4 B))))).wp Tryz.prog Q {tmps:=#[.slice (some ⟨sb,0,none⟩) n cb,.int .u64 m]++Array.replicate 44 undef,defers:=[]} w:=by
 have hN:=ahU w sb n cb
 have hI:=ae3 w sb n cb m
 simp only[zz0,zz1,zz2,zz3,zz4,bQ,lC,av,Tryz.f30,Option.getD,ah,cO,Option.map,Array.replicate_succ,Array.replicate_zero,List.push_toArray,List.append_toArray,List.nil_append,List.cons_append]
 go_wp2_with (first|(refine hN.mono ?_;rintro en w' ⟨rfl,rfl⟩)|(refine hI.mono ?_;rintro en w' ⟨rfl,rfl⟩))
 exact hQ _ rfl rfl rfl rfl rfl
theorem abD{a:Act}{w:World}{v ve:Value}(h4:a.tmps[4]? =some v)(h5:a.tmps[5]? =some ve):(results Tryz.f30 a.tmps).run Tryz.prog w= .ok (.tuple #[v,ve]) w:=by
 have e:(Tryz.f30).results=#[.tmp 4,.tmp 5]:=by kernel_rfl
 have e4:a.tmps.getD 4 undef=v:=by rw[Array.getD_eq_getD_getElem?,h4];rfl
 have e5:a.tmps.getD 5 undef=ve:=by rw[Array.getD_eq_getD_getElem?,h5];rfl
 simp[results,e,h4,h5,go_sem]
theorem abE{w0 w:World}{sb cb:Nat}{ea:Addr}{O:U}(h:Start w0 w sb cb ea O)(m:Int):
 Calls Tryz.prog 30 #[.slice (some ⟨sb,0,none⟩) O.size cb,.int .u64 m] w fun en w'=>∃v ve,en= .returned (.tuple #[v,ve])∧
  w'.ownsRow (w.heap.size+4) 68 9 v (iZ O m).length (rowOf (iZ O m))∧w'.ownsRow (w.heap.size+4) 70 3 ve (last O m).ab.length (cZ (last O m).ab)∧Below w0.heap.size w0 w':=by
 have hA:=Fs h
 have hI:=NB h m
 refine calls_of_wp Tryz.func30 W0 ?_
 have yV:(Tryz.f30).ntmps-(#[.slice (some ⟨sb,0,none⟩) O.size cb,.int .u64 m]:Array Value).size=44:=by kernel_rfl
 rw[yV]
 refine RX w sb O.size cb m _ _ (fun a d0 ds d6 d7 d8=> ?_)
 refine wp_block (wp_loop_rounds (fz O (jj m)+1) ?_)
 have hz:ZA (RH w0 w sb cb ea O) (.slice none 0 0) a:=⟨d0,ds,d6,d7,d8⟩
 have hms:fz O (jj m)<=8196:=by
  have hn:O.size<=2048:=h.n
  have:left O (jj m)=2*(O.size-0)+1:=rfl
  unfold fz
  rw[if_neg (show¬(jj m).au=true from fun h=>by cases h)]
  omega
 refine KN hA _ (fz O (jj m)+1) (jj m) (.slice none 0 0) 0 [] a _ ⟨hI,World.ownsRow_nil _ _ _ _,hz,j9 O m h.n,RV m h.n⟩ (Nat.lt_succ_self _) (by omega) (fun v ve a' w' o1 o2 o3 o4 o5 o6=> ?_)
 obtain⟨x,hx,ha⟩:=o2
 obtain⟨u,hu,hr⟩:=hx.he
 have hue:u=ve:=Option.some.inj ((ag hu (o:=0) (v:=u) rfl).symm.trans o3)
 subst hue
 rw[AL ha]at hr
 have o1':w'.ownsRow (w.heap.size+4) 68 9 v (iZ O m).length (rowOf (iZ O m)):=by
  have:=o1
  rw[Nat.zero_add,List.nil_append]at this
  exact this
 exact⟨o4,_,abD o5 o6,v,u,rfl,o1',hr,hx.below⟩
theorem gx(N:Nat)(t:Array Value)(h:t.size=N):t=((List.range N).map fun i=>t.getD i undef).toArray:=by
 apply Array.ext_getElem?
 intro i
 simp only[List.getElem?_toArray,List.getElem?_map]
 by_cases hi:i<N
 ·rw[List.getElem?_range hi]
  simp[h,hi]
 ·rw[Array.getElem?_eq_none (by omega),List.getElem?_eq_none (by simp;omega)];rfl
structure SA(ve vo vr vn vi:Value)(a:Act):Prop where
 defers:a.defers=[]
 size:a.tmps.size=74
 s7:a.tmps[7]? =some ve
 s8:a.tmps[8]? =some vo
 s22:a.tmps[22]? =some vr
 s23:a.tmps[23]? =some vn
 s24:a.tmps[24]? =some vi
theorem SA.lit{ve vo vr vn vi:Value}{a:Act}(h:SA ve vo vr vn vi a):∃x:Nat->Value,a={tmps:=#[x 0,x 1,x 2,x 3,x 4,x 5,x 6,ve,vo,x 9,x 10,x 11,x 12,x 13,x 14,x 15,x 16,x 17,x 18,x 19,x 20,x 21,vr,vn,vi,x 25,x 26,x 27,x 28,x 29,x 30,x 31,x 32,x 33,x 34,x 35,x 36,x 37,x 38,x 39,x 40,x 41,x 42,x 43,x 44,x 45,x 46,x 47,x 48,x 49,x 50,x 51,x 52,x 53,x 54,x 55,x 56,x 57,x 58,x 59,x 60,x 61,x 62,x 63,x 64,x 65,x 66,x 67,x 68,x 69,x 70,x 71,x 72,x 73],defers:=[]}:=by
 refine⟨fun i=>a.tmps.getD i undef,?_⟩
 obtain⟨t,d⟩:=a
 obtain⟨h1,h2,k7,k8,k22,k23,k24⟩:=h
 simp only at h1 h2 k7 k8 k22 k23 k24
 subst h1
 have e7:t.getD 7 undef=ve:=by rw[Array.getD_eq_getD_getElem?,k7];rfl
 have e8:t.getD 8 undef=vo:=by rw[Array.getD_eq_getD_getElem?,k8];rfl
 have e22:t.getD 22 undef=vr:=by rw[Array.getD_eq_getD_getElem?,k22];rfl
 have e23:t.getD 23 undef=vn:=by rw[Array.getD_eq_getD_getElem?,k23];rfl
 have e24:t.getD 24 undef=vi:=by rw[Array.getD_eq_getD_getElem?,k24];rfl
 have ht:=gx 74 t h2
 rw[←e7,←e8,←e22,←e23,←e24]
 exact congrArg (fun t=>({tmps:=t,defers:=[]}:Act)) ht
abbrev gL:Code:=av Tryz.f13
abbrev rl:Code:=a_ (aX gL 0)
def cQ(st:St):List Value:=[.int .i64 (wrap64 st.line),.int .i64 (wrap64 st.aM),.bool st.blank,.string (aH st.tok.toNat),.string st.lit,.bool st.bad,.int .i64 (wrap64 st.kind),.string (lB st.op),.int .i64 st.prec]
theorem RZ:(Tryz.prog.info? 35).map (fun i=>(i.zero,i.size,i.bytes))=some (some (.agg #[.int .i64 0,.int .i64 0,.bool false,.string ⟨#[]⟩,.string ⟨#[]⟩,.bool false,.int .i64 0,.string ⟨#[]⟩,.int .i64 0]),9,96):=by kernel_rfl
theorem abF{w:World}{o1:Obj}{base n:Nat}{v:Value}{xs:List Value}{st:St}(bo:w.ownsRow base 35 9 v n xs)(cN:base<=w.heap.size)(hn:n<=1000000)
 {ops:Array Oper}{rest:List Oper}{o:Oper}{a:Act}{Q:Exit->Act->World->Prop}(DR:o.guard=none)(s x:Operand)
 (ho:o.op= .call {callee:= .builtin .append,args:=#[s,x],argTypes:=#[30,30]})(hs:a.eval s=v)(hx:a.eval x= .slice (some ⟨w.heap.size+1,0,none⟩) 1 1)
 (h:∀g cap w',w'.ownsRow base 35 9 (.slice (some ⟨g,0,none⟩) (n+1) cap) (n+1) (xs++cQ st)->((w.alloc o1).alloc (.cells (cQ st).toArray 35)).grownBy w' v.ownBlock->wpList Tryz.prog ops Q rest (a.put o.dst (.slice (some ⟨g,0,none⟩) (n+1) cap)) w'):
 wpList Tryz.prog ops Q (o::rest) a ((w.alloc o1).alloc (.cells (cQ st).toArray 35)):=by
 obtain⟨i0,FH,Eh,L5,HU⟩:=info_parts RZ
 have eJ:((w.alloc o1).alloc (.cells (cQ st).toArray 35)).heap.size=w.heap.size+2:=by simp
 have abG:(w.alloc o1).heap.size=w.heap.size+1:=by simp
 have hlen:(cQ st).length=9:=rfl
 have hml:n+1<=maxLen:=by simp only[maxLen];omega
 have Cc:∀u∈cQ st,u.oneCell'=true:=by simp[cQ,Value.oneCell']
 have mS:=World.news_of_block (cs:=(cQ st).toArray) (t:=35) (fr:=(0,0)) (heap_alloc_new (w.alloc o1) (.cells (cQ st).toArray 35))
 rw[abG]at mS
 exact wpList_append_lies _ DR s x 30 ho base 35 i0 _ 9 96 Tryz.underlying30 FH Eh L5 HU rfl (by omega) v n xs hs (fW (fW bo _) _)
  ⟨w.heap.size+1,0,none⟩ 1 1 (cQ st) hx hlen mS Cc
  (by omega) hml (by omega) (by rw[eJ];omega) (w.heap.size+2) eJ (fun g cap w' h1 h2 _ _=>h g cap w' h1 h2)
theorem R0{w:World}{st:St}{g cap n i base:Nat}{ve vo:Value}{xs:List Value}(hi:i<n)(hn:n<=1000000)(bo:w.ownsRow base 35 9 vo i xs)(cN:base<=w.heap.size)
 (c0:w.cell? ⟨g,i*9,none⟩=some (.int .u64 st.line))(c1:w.cell? ⟨g,i*9+1,none⟩=some (.int .u64 st.aM))(c2:w.cell? ⟨g,i*9+2,none⟩=some (.bool st.blank))(c3:w.cell? ⟨g,i*9+3,none⟩=some (.string (aH st.tok.toNat)))
 (c4:w.cell? ⟨g,i*9+4,none⟩=some (.string st.lit))(c5:w.cell? ⟨g,i*9+5,none⟩=some (.bool st.bad))(c6:w.cell? ⟨g,i*9+6,none⟩=some (.int .i64 (IntKind.i64.wrap st.kind)))(c7:w.cell? ⟨g,i*9+7,none⟩=some (.string (lB st.op)))(c8:w.cell? ⟨g,i*9+8,none⟩=some (.int .i64 st.prec))
 (a:Act)(hz:SA ve vo (.slice (some ⟨g,0,none⟩) n cap) (.int .i64 n) (.int .i64 i) a)(Q:Exit->Act->World->Prop)
 (hQ:∀o1 W1 a' w',SA ve W1 (.slice (some ⟨g,0,none⟩) n cap) (.int .i64 n) (.int .i64 (i+1:Nat)) a'->w'.ownsRow base 35 9 W1 (i+1) (xs++cQ st)->((w.alloc o1).alloc (.cells (cQ st).toArray 35)).grownBy w' vo.ownBlock->Q .normal a' w'):rl.wp Tryz.prog Q a w:=by
 obtain⟨x,rfl⟩:=hz.lit
 clear hz
 have FH:(0:Int)<=(i:Int):=by omega
 have hi1:(i:Int)<(n:Int):=by omega
 simp only[rl,gL,av,Tryz.f13,Option.getD,aX,a_,cond,Nat.beq]
 go_wp2_with (at_builtin;go_loud (refine abF (st:=st) bo cN (by omega) (by rfl) _ _ (by rfl) (by rfl) (by rfl) ?_);intro gg NK w1 l8 fR)
 exact hQ _ _ _ _ ⟨rfl,rfl,rfl,rfl,rfl,rfl,rfl⟩ l8 fR
theorem abH{w:World}{n:Nat}{ve vo vr:Value}(a:Act)(hz:SA ve vo vr (.int .i64 n) (.int .i64 n) a)(Q:Exit->Act->World->Prop)
 (hQ:∀a',SA ve vo vr (.int .i64 n) (.int .i64 n) a'->Q (.exit 0) a' w):rl.wp Tryz.prog Q a w:=by
 obtain⟨x,rfl⟩:=hz.lit
 clear hz
 simp only[rl,gL,av,Tryz.f13,Option.getD,aX,a_,cond,Nat.beq]
 have bz:¬((n:Int)<(n:Int)):=by omega
 go_wp2_with fail
 exact⟨rfl,rfl,rfl,rfl,rfl,rfl,rfl⟩
theorem below_grown{B:Nat}{w0 w w1:World}{o1 o2:Obj}{row:Option Nat}(h:Below B w0 w)(hB:B<=w.heap.size)(hg:((w.alloc o1).alloc o2).grownBy w1 row)(hr:∀k,row=some k->B<=k):Below B w0 w1:=by
 have h1:=Below.alloc h hB o1
 have h2:=Below.alloc h1 (by simp;omega) o2
 refine h2.trans ⟨hg.os,hg.tape,hg.output,hg.size,fun k hk=>hg.block k (by simp;omega) (fun e=> ?_)⟩
 have:=hr k e.symm;omega
theorem i_{w:World}{base n g cap:Nat}{e:TypeId}{sz:Nat}{xs:List Value}{j:Nat}{u:Value}(h:w.ownsRow base e sz (.slice (some ⟨g,0,none⟩) n cap) n xs)(hj:xs[j]? =some u):w.cell? ⟨g,j,none⟩=some u:=by
 have:=h.cells (g:=g) rfl j u hj
 have e:(⟨g,0,none⟩:Addr).add j=⟨g,j,none⟩:=by unfold Addr.add;split<;>simp_all
 rw[e]at this;exact this
theorem KO(L:List St){wS:World}{g cap b0:Nat}{ve:Value}(hL:L.length<=1000000)(eO:wS.ownsRow b0 68 9 (.slice (some ⟨g,0,none⟩) L.length cap) L.length (rowOf L))(Q:Exit->Act->World->Prop)
 (hQ:∀vo a w,SA ve vo (.slice (some ⟨g,0,none⟩) L.length cap) (.int .i64 L.length) (.int .i64 L.length) a->w.ownsRow wS.heap.size 35 9 vo L.length (flat cQ L)->Below wS.heap.size wS w->Q .normal a w):
 ∀(d i:Nat) (vo:Value) (a:Act) (w:World),i+d=L.length->SA ve vo (.slice (some ⟨g,0,none⟩) L.length cap) (.int .i64 L.length) (.int .i64 i) a->w.ownsRow wS.heap.size 35 9 vo i (flat cQ (L.take i))->Below wS.heap.size wS w->
  Code.rounds Tryz.prog rl (Exit.inBlock 0 Q) (d+1) a w
 |0,i,vo,a,w,hi,hz,bo,hB=>by
  have hi:i=L.length:=by omega
  subst hi
  rw[rounds_succ]
  refine abH a hz _ (fun a' z'=> ?_)
  show Q .normal a' w
  rw[List.take_length]at bo
  exact hQ vo a' w z' bo hB
 |d+1,i,vo,a,w,hi,hz,bo,hB=>by
  have bz:i<L.length:=by omega
  obtain⟨s,hs⟩:∃s,L[i]? =some s:=⟨L[i],List.getElem?_eq_getElem bz⟩
  have cell:∀j u,j<9->(eY s)[j]? =some u->w.cell? ⟨g,i*9+j,none⟩=some u:=fun j u hj hu=>by
   have h1:(rowOf L)[i*9+j]? =some u:=(nh (k:=9) (fun _=>rfl) L i j s hs hj).trans hu
   have h2:=i_ eO h1
   rw[World.cell?_of_block (w:=wS) (a:=⟨g,i*9+j,none⟩) (hB.block _ (World.block_lt_of_cell? _ _ h2))]
   exact h2
  have cN:wS.heap.size<=w.heap.size:=hB.size
  rw[rounds_succ]
  refine R0 (st:=s) bz hL bo cN (by have:=cell 0 _ (by decide) rfl;exact this) (cell 1 _ (by decide) rfl) (cell 2 _ (by decide) rfl) (cell 3 _ (by decide) rfl) (cell 4 _ (by decide) rfl) (cell 5 _ (by decide) rfl) (cell 6 _ (by decide) rfl) (cell 7 _ (by decide) rfl) (cell 8 _ (by decide) rfl) a hz _ (fun o1 W1 a' w' z' abI grow=> ?_)
  show Code.rounds Tryz.prog rl (Exit.inBlock 0 Q) (d+1) a' w'
  refine KO L hL eO Q hQ d (i+1) W1 a' w' (by omega) z' ?_ (below_grown hB cN grow (fun k hk=>(dt bo hk).1))
  rw[List.take_add_one,hs]
  simp only[Option.toList,iJ,flat,List.append_nil]
  exact abI
end
end Sc
end Go.Proofs.YtogkcphobhhbdaaGreatDoor
