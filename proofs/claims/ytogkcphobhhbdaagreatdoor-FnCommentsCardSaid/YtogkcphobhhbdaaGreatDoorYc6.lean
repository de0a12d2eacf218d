/- The scanner of the program told as plain functions, part 6: texts joined and shortened by a program (wip/tools/mini.py). -/
import Derived.Test.YtogkcphobhhbdaaGreatDoorYc5
set_option linter.unusedVariables false
set_option linter.unusedSimpArgs false
set_option maxHeartbeats 32000000
namespace Go.Proofs.YtogkcphobhhbdaaGreatDoor
open Go Go.RowKit Go.Lib
namespace Sc
open Ev
set_option maxRecDepth 100000
noncomputable section
theorem Kk{A:Ad}(hA:A.Ok){f:FuncId}{fn:Func}(hf:Tryz.prog.funcs[f]? =some fn)(he:∀args w,(callFunc f args).run Tryz.prog w= .ok (.enter f args) w){l:List (Nat×ej (SY A))}(hl:bI A l)
 {G:List SV->aq (SY A)->af (SV×aq (SY A))}(h:∀args c (Q:SV×aq (SY A)->Prop),(G args c).aD Q->(eh (iM A l fn.ntmps [] 0) fn args c).aD Q):(ej.mk f #[] true G:ej (SY A)).Ok:=
 ⟨he,(fM (db A hA) (bw A hA hl fn.ntmps [] 0) (Y:=SY A) hf).refine h,(iT (db A hA) (bw A hA hl fn.ntmps [] 0)).refine h⟩
theorem M0(A:Ad)(c:aq (SY A))(m:U)(u:SV):eh (iM A (vK A) Tryz.f74.ntmps [] 0) Tryz.f74 [.st 0,.val (.string m),u] c= .ae (unit,⟨error m c.st,c.bx⟩):=by kernel_rfl
def ad3(A:Ad)(args:List SV)(c:aq (SY A)):af (SV×aq (SY A)):=
 match args with
 |[.st 0,.val (.string m),_]=> .ae (unit,⟨error m c.st,c.bx⟩)
 |_=> .fail
def ad4(A:Ad):ej (SY A):=⟨74,#[],true,ad3 A⟩
theorem VC(A:Ad)(hA:A.Ok):(ad4 A).Ok:=Kk hA Tryz.func74 (fun args w=>by kernel_rfl) (oZ A hA) (fun args c Q h=>by
 unfold ad3 at h
 split at h
 ·rw[M0];exact h
 ·exact h.elim)
def bF(o:Int)(m:U)(st:St):St:=iG st.line (u64 (st.aM+u64 o)) m st
theorem Il(A:Ad)(c:aq (SY A))(o:Int)(m:U)(u:SV):eh (iM A (vK A) Tryz.f97.ntmps [] 0) Tryz.f97 [.st 0,.val (.int .i64 o),.val (.string m),u] c= .ae (unit,⟨bF o m c.st,c.bx⟩):=by kernel_rfl
def ad5(A:Ad)(args:List SV)(c:aq (SY A)):af (SV×aq (SY A)):=
 match args with
 |[.st 0,.val (.int .i64 o),.val (.string m),_]=> .ae (unit,⟨bF o m c.st,c.bx⟩)
 |_=> .fail
def ad6(A:Ad):ej (SY A):=⟨97,#[],true,ad5 A⟩
theorem VD(A:Ad)(hA:A.Ok):(ad6 A).Ok:=Kk hA Tryz.func97 (fun args w=>by kernel_rfl) (oZ A hA) (fun args c Q h=>by
 unfold ad5 at h
 split at h
 ·rw[Il];exact h
 ·exact h.elim)
def bJ(O:U)(k:Int)(ok:Bool)(st:St):St:={st with au:=true,tok:=3,lit:=fG O st,bad:= !ok,kind:=k}
theorem M1(A:Ad)(c:aq (SY A))(k:Int)(ok:Bool):eh (iM A (vK A) Tryz.f96.ntmps [] 0) Tryz.f96 [.st 0,.val (.int .u8 k),.val (.bool ok)] c= .aY (c.st.b.isSome=true) (.ae (unit,⟨bJ A.O k ok c.st,c.bx⟩)):=by kernel_rfl
theorem Im(A:Ad)(c:aq (SY A))(k:Int):eh (iM A (vK A) Tryz.f96.ntmps [] 0) Tryz.f96 [.st 0,.val (.int .u8 k),.tt] c= .aY (c.st.b.isSome=true) (.ae (unit,⟨bJ A.O k true c.st,c.bx⟩)):=by kernel_rfl
theorem Io(A:Ad)(c:aq (SY A))(k:Int):eh (iM A (vK A) Tryz.f96.ntmps [] 0) Tryz.f96 [.st 0,.val (.int .u8 k),.ff] c= .aY (c.st.b.isSome=true) (.ae (unit,⟨bJ A.O k false c.st,c.bx⟩)):=by kernel_rfl
def ad7(A:Ad)(args:List SV)(c:aq (SY A)):af (SV×aq (SY A)):=
 match args with
 |[.st 0,.val (.int .u8 k),.val (.bool ok)]=> .aY (c.st.b.isSome=true) (.ae (unit,⟨bJ A.O k ok c.st,c.bx⟩))
 |[.st 0,.val (.int .u8 k),.tt]=> .aY (c.st.b.isSome=true) (.ae (unit,⟨bJ A.O k true c.st,c.bx⟩))
 |[.st 0,.val (.int .u8 k),.ff]=> .aY (c.st.b.isSome=true) (.ae (unit,⟨bJ A.O k false c.st,c.bx⟩))
 |_=> .fail
def ad8(A:Ad):ej (SY A):=⟨96,#[],true,ad7 A⟩
theorem VE(A:Ad)(hA:A.Ok):(ad8 A).Ok:=Kk hA Tryz.func96 (fun args w=>by kernel_rfl) (oZ A hA) (fun args c Q h=>by
 unfold ad7 at h
 split at h
 ·rw[M1];exact h
 ·rw[Im];exact h
 ·rw[Io];exact h
 ·exact h.elim)
def ld(m:U)(st:St):St:=iG st.line st.aM m st
theorem Ip(A:Ad)(c:aq (SY A))(m:U):eh (iM A (vK A) Tryz.f101.ntmps [] 0) Tryz.f101 [.st 0,.val (.string m)] c= .ae (unit,⟨ld m c.st,c.bx⟩):=by kernel_rfl
def ad9(A:Ad)(args:List SV)(c:aq (SY A)):af (SV×aq (SY A)):=
 match args with
 |[.st 0,.val (.string m)]=> .ae (unit,⟨ld m c.st,c.bx⟩)
 |_=> .fail
def ad_(A:Ad):ej (SY A):=⟨101,#[],true,ad9 A⟩
theorem VF(A:Ad)(hA:A.Ok):(ad_ A).Ok:=Kk hA Tryz.func101 (fun args w=>by kernel_rfl) (oZ A hA) (fun args c Q h=>by
 unfold ad9 at h
 split at h
 ·rw[Ip];exact h
 ·exact h.elim)
theorem kF(O:U)(line:Int):∀(f:Nat) (ao:Bool) (p:Nat) (aM:Int) (ns:List e_),p<O.size->p<(ak O line (f+1) ao p aM ns).p∧(ak O line (f+1) ao p aM ns).p<=O.size
 |0,ao,p,aM,ns,h=>by
  have:=gz O p
  have:=km O p h
  simp only[ak]
  repeat' split
  all_goals first
   |(simp only;omega)
 |f+1,ao,p,aM,ns,h=>by
  have:=gz O p
  have:=km O p h
  have step:∀(q:Nat) (b:Bool) (aM:Int) (ns:List e_),p<q->q<=O.size->p<(ak O line (f+1) b q aM ns).p∧(ak O line (f+1) b q aM ns).p<=O.size:=fun q b aM ns h1 h2=>by
   by_cases hq:q<O.size
   ·have:=kF O line f b q aM ns hq;omega
   ·simp only[ak,if_neg hq];omega
  rw[ak]
  repeat' split
  all_goals first
   |(refine step _ _ _ _ ?_ ?_<;>omega)
   |(simp only;omega)
theorem nP(O:U)(line:Int)(f:Nat)(ao:Bool)(p:Nat)(aM:Int)(ns:List e_)(h:¬p<O.size):(ak O line (f+1) ao p aM ns)=⟨p,aM,-1,0,ns⟩:=by
 simp only[ak,if_neg h]
def left(O:U)(st:St):Nat:=2*(O.size-st.p)+(if st.ch= -1 then 0 else 1)
theorem aQ(O:U)(st:St)(bn:¬st.ch= -1):left O (aa O st)<left O st:=by
 by_cases hp:st.p<O.size
 ·have:=kF O (aB st) O.size st.ao st.p (aS st) st.ab hp
  have h1:(aa O st).p=(ak O (aB st) (O.size+1) st.ao st.p (aS st) st.ab).p:=rfl
  unfold left
  rw[if_neg bn,h1]
  split<;>omega
 ·have:=nP O (aB st) O.size st.ao st.p (aS st) st.ab hp
  have h1:(aa O st).p=st.p:=by show(ak _ _ _ _ _ _ _).p=_;rw[this]
  have h2:(aa O st).ch= -1:=by show(ak _ _ _ _ _ _ _).ch=_;rw[this]
  unfold left
  rw[if_neg bn,h1,h2]
  simp
def lf(O:U)(c:Int->Bool):Nat->St->St
 |0,st=>st
 |n+1,st=>if c st.ch=true then lf O c n (aa O st)else st
def skip(O:U)(c:Int->Bool)(st:St):St:=lf O c (left O st) st
theorem Kl{c:Int->Bool}(hc:c (-1)=false){x:Int}(h:c x=true):¬x= -1:=fun e=>by rw[e,hc]at h;cases h
theorem x_(O:U)(c:Int->Bool)(hc:c (-1)=false):∀(n m:Nat) (st:St),left O st<=n->n<=m->lf O c n st=lf O c m st
 |0,m,st,h,_=>by
  cases m with
  |zero=>rfl
  |succ m=>
   have:¬c st.ch=true:=fun h1=>by
    have:=Kl hc h1
    unfold left at h
    rw[if_neg this]at h
    omega
   simp only[lf,if_neg this]
 |n+1,0,st,_,h=>by omega
 |n+1,m+1,st,h,hm=>by
  simp only[lf]
  split
  ·rename_i h1
   exact x_ O c hc n m _ (by have:=aQ O st (Kl hc h1);omega) (by omega)
  ·rfl
theorem jK(O:U)(c:Int->Bool)(hc:c (-1)=false)(st:St):skip O c st=if c st.ch=true then skip O c (aa O st)else st:=by
 unfold skip
 by_cases h1:c st.ch=true
 ·rw[if_pos h1]
  have h2:=aQ O st (Kl hc h1)
  obtain⟨n,hn⟩:∃n,left O st=n+1:=⟨left O st-1,by omega⟩
  rw[hn]
  simp only[lf,if_pos h1]
  exact(x_ O c hc _ n _ (Nat.le_refl _) (by omega)).symm
 ·rw[if_neg h1]
  cases left O st with
  |zero=>rfl
  |succ n=>simp only[lf,if_neg h1]
theorem sE(O:U)(c:Int->Bool){P:St->Prop}(h:∀st,P st->c st.ch=true->P (aa O st))(st:St)(h0:P st):P (skip O c st):=by
 unfold skip
 generalize left O st=n
 induction n generalizing st with
 |zero=>exact h0
 |succ n ih=>
  simp only[lf]
  split
  ·rename_i h1;exact ih _ (h st h0 h1)
  ·exact h0
theorem EO(O:U)(c:Int->Bool)(st:St):st.ab.length<=(skip O c st).ab.length:=
 sE O c (P:=fun s=>st.ab.length<=s.ab.length) (fun s h _=>Nat.le_trans h (kZ O s)) st (Nat.le_refl _)
theorem ya{A:Ad}(hA:A.Ok){N id:Nat}{b:Code}(c:Int->Bool)(hc:c (-1)=false){κ:Type}(tm:κ->List (Nat×SV))
 (hB:At (SY A) N b (fun p:St×List Value×κ=>Es A p.1 p.2.1 (tm p.2.2)) (fun p=>if c p.1.ch=true then .ae (.normal,Es A (aa A.O p.1) p.2.1 (tm p.2.2))else .ae (.exit id,Es A p.1 p.2.1 (tm p.2.2)))):
 At (SY A) N (.block id (.loop b)) (fun p:St×List Value×κ=>Es A p.1 p.2.1 (tm p.2.2)) (fun p=> .ae (.normal,Es A (skip A.O c p.1) p.2.1 (tm p.2.2))):=by
 refine At.loop (fun p=>left A.O p.1) hB (fun p Q hs=> ?_) (fun p Q hb hs=> ?_)
 ·have jt:Q (.normal,Es A (skip A.O c p.1) p.2.1 (tm p.2.2)):=hs
  rw[jK A.O c hc]at jt
  by_cases h1:c p.1.ch=true
  ·rw[if_pos h1]at jt⊢
   exact⟨(aa A.O p.1,p.2.1,p.2.2),fF.refl _,aQ A.O p.1 (Kl hc h1),jt⟩
  ·rw[if_neg h1]at jt⊢
   show if id=id then _ else _
   rw[if_pos rfl]
   exact⟨_,fF.refl _,jt⟩
 ·exact⟨_,hs,Nat.le_trans (show zR<=p.1.ab.length from hb) (EO A.O c p.1)⟩
end
end Sc
end Go.Proofs.YtogkcphobhhbdaaGreatDoor
namespace Go.Proofs.YtogkcphobhhbdaaGreatDoor
open Go Go.RowKit
namespace Ev
set_option maxRecDepth 100000
noncomputable section
inductive Step(α β:Type) where
 |go (a:α)
 |out (b:β)
def runT{α β:Type}(body:α->af (Step α β)):Nat->α->af β
 |0,_=> .fail
 |n+1,a=>(body a).bind fun s=>match s with
  | .go a'=>runT body n a'
  | .out b=> .ae b
theorem bind_assoc{α β γ:Type}(t:af α)(f:α->af β)(g:β->af γ):(t.bind f).bind g=t.bind fun a=>(f a).bind g:=by
 induction t with
 |ae a=>rfl
 |aj b t e iQ jH=>simp only[af.bind,iQ,jH]
 |aY p k ih=>simp only[af.bind,ih]
 |any t e iQ jH=>simp only[af.bind,iQ,jH]
 |fail=>rfl
def jW{Y:Sys}{α β:Type}(F:α->E Y)(G:β->Ex×E Y):Step α β->Ex×E Y
 | .go a=>(.normal,F a)
 | .out q=>G q
def iq{Y:Sys}(id:Nat)(xe:Ex×E Y):Ex×E Y:=match xe.1 with
 | .exit i=>(if i=id then .normal else .exit i,xe.2)
 |_=>xe
theorem At.run{Y:Sys}{N id:Nat}{b:Code}{α β:Type}{F:α->E Y}{G:β->Ex×E Y}{body:α->af (Step α β)}(fuel:α->Nat)
 (hB:At Y N b F (fun p=>(body p).bind fun s=> .ae (jW F G s)))(hG:∀q,(G q).1≠ .normal):
 At Y N (.block id (.loop b)) F (fun p=>(runT body (fuel p) p).bind fun q=> .ae (iq id (G q))):=by
 have hm:∀(n:Nat) (p:α) (Q:Ex×E Y->Prop),Y.eM (F p).c.st->((runT body n p).bind fun q=> .ae (iq id (G q))).aD Q->∃q,Q q∧Y.eM q.2.c.st:=by
  intro n
  induction n with
  |zero=>intro p Q _ hs;exact hs.elim
  |succ n ih=>
   intro p Q hb hs
   simp only[runT,bind_assoc,ax]at hs
   obtain⟨⟨x,e⟩,hq,fX⟩:=hB.mono p (fun xe=>match xe.1 with
    | .normal=>∃a,xe.2=F a∧((runT body n a).bind fun q=> .ae (iq id (G q))).aD Q
    |_=>∃q,xe=G q∧Q (iq id (G q))) hb (by
     rw[ax]
     refine an hs (fun s h=> ?_)
     cases s with
     |go a=>exact⟨a,rfl,by rw[ax];exact h⟩
     |out q=>
      simp only[af.aD,jW]at h⊢
      have hn:=hG q
      generalize hgq:G q=gq at*
      obtain⟨x,e⟩:=gq
      cases x with
      |normal=>exact absurd rfl hn
      |exit i=>exact⟨q,hgq.symm,by rw[hgq];exact h⟩
      |goto l=>exact⟨q,hgq.symm,by rw[hgq];exact h⟩
      |ret=>exact⟨q,hgq.symm,by rw[hgq];exact h⟩)
   have qW:(∃q,(x,e)=G q∧Q (iq id (G q)))->∃q,Q q∧Y.eM q.2.c.st:=by
    rintro⟨q,hg,hq⟩
    refine⟨_,hq,?_⟩
    rw[←hg]
    unfold iq
    split<;>exact fX
   cases x with
   |normal=>obtain⟨a,ha,jt⟩:=hq;exact ih a Q (by rw[←ha];exact fX) jt
   |exit i=>exact qW hq
   |goto l=>exact qW hq
   |ret=>exact qW hq
 have key:At Y N (.block id (.loop b)) (fun p:Nat×α=>F p.2) (fun p=>(runT body p.1 p.2).bind fun q=> .ae (iq id (G q))):=by
  have hB':At Y N b (fun p:Nat×α=>F p.2) (fun p=>(body p.2).bind fun s=> .ae (jW F G s)):=
   ⟨fun p=>hB.wp p.2,fun p=>hB.mono p.2⟩
  refine At.loop (fun p=>p.1) hB' (fun p Q hs=> ?_) (fun p Q hb hs=>hm p.1 p.2 Q hb hs)
  obtain⟨n,p⟩:=p
  cases n with
  |zero=>exact hs.elim
  |succ n=>
   simp only[runT,bind_assoc,ax]at hs⊢
   refine an hs (fun s h=> ?_)
   cases s with
   |go a=>exact⟨(n,a),fF.refl _,Nat.lt_succ_self n,h⟩
   |out q=>
    have h':Q (iq id (G q)):=h
    have hn:=hG q
    simp only[af.aD,jW]
    generalize G q=gq at*
    obtain⟨x,e⟩:=gq
    cases x with
    |normal=>exact absurd rfl hn
    |exit i=>
     simp only[iq]at h'⊢
     by_cases hi:i=id
     ·rw[if_pos hi]at h'⊢;exact⟨e,fF.refl _,h'⟩
     ·rw[if_neg hi]at h'⊢;exact h'
    |goto l=>exact h'
    |ret=>exact h'
 exact⟨fun p=>key.wp (fuel p,p),fun p=>key.mono (fuel p,p)⟩
def cx{Y:Sys}{π:Type}(κ:E Y->Option π)(g:π->af (Ex×E Y))(e:E Y):af (Ex×E Y):=match κ e with
 |some p=>g p
 |none=> .fail
theorem eW{Y:Sys}{N id:Nat}{b:Code}{π:Type}{F:π->E Y}{g:π->af (Ex×E Y)}(hA:At Y N (.block id b) F g){κ:E Y->Option π}(hκ:∀e p,κ e=some p->fF e (F p)):cy Y N id b (cx κ g):=by
 refine At.jI (At.refine hA (fun e Q hs=> ?_))
 unfold cx at hs
 split at hs
 ·rename_i p hp
  exact⟨p,hκ e p hp,an hs (fun xe hq=>⟨xe.2,fF.refl _,hq⟩)⟩
 ·exact hs.elim
def af.all{α:Type}(P:α->Prop):af α->Prop
 | .ae a=>P a
 | .aj b t e=>(b=true->t.all P)∧(b=false->e.all P)
 | .aY _ k=>k.all P
 | .any t e=>t.all P∧e.all P
 | .fail=>True
theorem wL{α β:Type}{body:α->af (Step α β)}(μ:α->Nat)(I:α->Prop){P:β->Prop}
 (h:∀a,I a->(body a).aD fun s=>match s with
   | .go a'=>I a'∧μ a'<μ a
   | .out b=>P b):∀(n:Nat) (a:α),I a->μ a<n->(runT body n a).aD P
 |0,a,_,hn=>absurd hn (Nat.not_lt_zero _)
 |n+1,a,ha,hn=>by
  simp only[runT,ax]
  refine an (h a ha) (fun s hs=> ?_)
  cases s with
  |go a'=>exact wL μ I h n a' hs.1 (by omega)
  |out b=>exact hs
theorem o0{α:Type}{t:af α}(hn:t.cg){P:α->Prop}(h:t.aD P):t.safe:=by
 induction t with
 |ae a=>trivial
 |aj b t e iQ jH=>exact⟨fun hb=>iQ hn.1 (h.1 hb),fun hb=>jH hn.2 (h.2 hb)⟩
 |aY p k ih=>exact⟨h.1,ih hn h.2⟩
 |any t e _ _=>exact hn.elim
 |fail=>exact h.elim
theorem uy{α β:Type}{body:α->af (Step α β)}(h:∀a,(body a).cg):∀(n:Nat) (a:α),(runT body n a).cg
 |0,a=>trivial
 |n+1,a=>by
  simp only[runT]
  refine ek (h a) (fun s=> ?_)
  cases s with
  |go a'=>exact uy h n a'
  |out b=>trivial
theorem VG{α:Type}{d:α}{t:af α}(hn:t.cg){P Q:α->Prop}(hs:t.aD P):t.aD Q↔Q (t.get d):=
 ⟨fun h=>dI h,fun h=>qZ (o0 hn hs) h⟩
def cC{α β:Type}(body:α->af (Step α β))(μ:α->Nat)(d:β)(a:α):β:=(runT body (μ a+1) a).get d
theorem cp{α β:Type}{body:α->af (Step α β)}{μ:α->Nat}{d:β}(I:α->Prop){P:β->Prop}
 (h:∀a,I a->(body a).aD fun s=>match s with
   | .go a'=>I a'∧μ a'<μ a
   | .out b=>P b)(a:α)(ha:I a):P (cC body μ d a):=dI (wL μ I h (μ a+1) a ha (Nat.lt_succ_self _))
theorem At.VH{Y:Sys}{N id:Nat}{b:Code}{κ α β:Type}{F:κ->α->E Y}{G:κ->β->Ex×E Y}{body:α->af (Step α β)}(μ:α->Nat)(d:β)(I:α->Prop)
 (hB:∀k,At Y N b (F k) (fun p=>(body p).bind fun s=> .ae (jW (F k) (G k) s)))(hG:∀k q,(G k q).1≠ .normal)(hn:∀a,(body a).cg)
 (hs:∀a,I a->(body a).aD fun s=>match s with
   | .go a'=>I a'∧μ a'<μ a
   | .out _=>True):
 At Y N (.block id (.loop b)) (fun p:α×κ=>F p.2 p.1) (fun p=> .aY (I p.1) (.ae (iq id (G p.2 (cC body μ d p.1))))):=by
 have key:∀(p:α×κ) (Q:Ex×E Y->Prop),(af.aY (I p.1) (.ae (iq id (G p.2 (cC body μ d p.1))))).aD Q->((runT body (μ p.1+1) p.1).bind fun q=> .ae (iq id (G p.2 q))).aD Q:=by
  intro p Q h
  rw[ax]
  exact qZ (o0 (uy hn _ _) (wL μ I hs (μ p.1+1) p.1 h.1 (Nat.lt_succ_self _))) h.2
 exact⟨fun p bl a w Q hI h=>(At.run (fun p=>μ p+1) (hB p.2) (hG p.2)).wp p.1 bl a w Q hI (key p Q h),fun p Q hb h=>(At.run (fun p=>μ p+1) (hB p.2) (hG p.2)).mono p.1 Q hb (key p Q h)⟩
theorem At.Iq{Y:Sys}{N id:Nat}{b:Code}{κ α β:Type}{F:κ->α->E Y}{G:κ->β->Ex×E Y}{body:α->af (Step α β)}(μ:α->Nat)(d:β)
 (hB:∀k,At Y N b (F k) (fun p=>(body p).bind fun s=> .ae (jW (F k) (G k) s)))(hG:∀k q,(G k q).1≠ .normal)(hn:∀a,(body a).cg)
 (hs:∀a,(body a).aD fun s=>match s with
   | .go a'=>μ a'<μ a
   | .out _=>True):
 At Y N (.block id (.loop b)) (fun p:α×κ=>F p.2 p.1) (fun p=> .ae (iq id (G p.2 (cC body μ d p.1)))):=by
 have:=At.VH μ d (fun _=>True) hB hG hn (fun a _=>an (hs a) (fun s h=>by cases s with
  |go a'=>exact⟨trivial,h⟩
  |out q=>trivial)) (id:=id)
 exact⟨fun p bl a w Q hI h=>this.wp p bl a w Q hI ⟨trivial,h⟩,fun p Q hb h=>this.mono p Q hb ⟨trivial,h⟩⟩
def Ir(tm:List (Nat×SV)):List (Nat×SV)->Prop
 |[]=>True
 |(i,v)::r=>(look tm i=v∨∃u,iE (look tm i)=some u∧v= .val u)∧Ir tm r
theorem q9{Y:Sys}{e:E Y}{c:aq Y}{l:List (Nat×SV)}(hc:c=e.c)(h:Ir e.tm l):fF e ⟨c,l⟩:=by
 refine⟨hc,fun i=> ?_⟩
 have key:∀l,Ir e.tm l->look l i= .jk∨look l i=look e.tm i∨∃v,iE (look e.tm i)=some v∧look l i= .val v:=by
  intro l
  induction l with
  |nil=>intro _;exact .inl rfl
  |cons p r ih=>
   obtain⟨j,v⟩:=p
   rintro⟨h1,h2⟩
   rw[aF]
   by_cases hi:i=j
   ·rw[if_pos hi,hi]
    rcases h1 with h1|⟨u,h1,h3⟩
    ·exact .inr (.inl h1.symm)
    ·exact .inr (.inr ⟨u,h1,h3⟩)
   ·rw[if_neg hi];exact ih h2
 exact key l h
theorem At.par{Y:Sys}{N:Nat}{c:Code}{π κ:Type}{F:κ->π->E Y}{g:κ->π->af (Ex×E Y)}(h:∀k,At Y N c (F k) (g k)):At Y N c (fun p:π×κ=>F p.2 p.1) (fun p=>g p.2 p.1):=
 ⟨fun p=>(h p.2).wp p.1,fun p=>(h p.2).mono p.1⟩
end
end Ev
end Go.Proofs.YtogkcphobhhbdaaGreatDoor
namespace Go.Proofs.YtogkcphobhhbdaaGreatDoor
open Go Go.RowKit Go.Lib
namespace Sc
open Ev
set_option maxRecDepth 100000
noncomputable section
def AQ(A:Ad):List (Nat×ej (SY A)):=(74,ad4 A)::(97,ad6 A)::(96,ad8 A)::(101,ad_ A)::vK A
theorem lg(A:Ad)(hA:A.Ok):bI A (AQ A):=by
 refine bI.cons ?_ (VC A hA) rfl rfl (fun h=>by cases h)
 refine bI.cons ?_ (VD A hA) rfl rfl (fun h=>by cases h)
 refine bI.cons ?_ (VE A hA) rfl rfl (fun h=>by cases h)
 refine bI.cons ?_ (VF A hA) rfl rfl (fun h=>by cases h)
 exact oZ A hA
abbrev cfE(A:Ad)(N:Nat):eS (SY A):=iM A (AQ A) N [] 0
theorem At.same{Y:Ev.Sys}(hY:Laws Y){C:eS Y}(hC:C.Ok){c:Code}{π:Type}{F:π->E Y}{g:π->af (Ex×E Y)}(bm:Ex->List Nat)
 (h:∀p,(az C c (F p)).bind (fun xe=> .ae (xe.1,cU (bm xe.1) xe.2))=g p):At Y C.N c F g:=
 At.qB hY hC bm (fun p Q hs=>by rw[h];exact hs)
def mw:St:=⟨false,0,0,none,0,0,-1,0,false,0,0,false,0,.empty,false,0,0,0,[]⟩
def cm(x:Int):Bool:=decide (x>=0)&&(x != 10)
theorem EP(A:Ad)(st:St)(bx:List Value):(az (cfE A Tryz.f100.ntmps) (a_ (aX (av Tryz.f100) 0)) ⟨⟨st,bx⟩,[(0,.st 0)]⟩).bind (fun xe=> .ae (xe.1,cU [0] xe.2))=
 .aj (decide (st.ch>=0)) (.aj (st.ch != 10) (.ae (.normal,⟨⟨aa A.O st,bx⟩,[(0,.st 0)]⟩)) (.ae (.exit 0,⟨⟨st,bx⟩,[(0,.st 0)]⟩))) (.ae (.exit 0,⟨⟨st,bx⟩,[(0,.st 0)]⟩)):=by kernel_rfl
theorem Aa:(Tryz.f100).body=some (.block 0 (.loop (a_ (aX (av Tryz.f100) 0)))):=by kernel_rfl
theorem ER(A:Ad)(hA:A.Ok):At (SY A) Tryz.f100.ntmps (.block 0 (.loop (a_ (aX (av Tryz.f100) 0)))) (fun p:St×List Value×PUnit=>Es A p.1 p.2.1 [(0,.st 0)]) (fun p=> .ae (.normal,Es A (skip A.O cm p.1) p.2.1 [(0,.st 0)])):=by
 refine ya hA cm rfl (fun _=>[(0,.st 0)]) ?_
 refine At.qB (db A hA) (bw A hA (lg A hA) _ [] 0) (fun _=>[0]) (fun p Q hs=> ?_)
 show((az (cfE A Tryz.f100.ntmps) (a_ (aX (av Tryz.f100) 0)) ⟨⟨p.1,p.2.1⟩,[(0,.st 0)]⟩).bind (fun xe=> .ae (xe.1,cU [0] xe.2))).aD Q
 rw[EP]
 by_cases hn:cm p.1.ch=true
 ·rw[if_pos hn]at hs
  have h1:=Bool.and_eq_true_iff.1 hn
  exact⟨fun _=>⟨fun _=>hs,fun h=>by rw[h1.2]at h;cases h⟩,fun h=>by rw[h1.1]at h;cases h⟩
 ·rw[if_neg hn]at hs
  refine⟨fun h1=>⟨fun h2=> ?_,fun _=>hs⟩,fun _=>hs⟩
  exact absurd (Bool.and_eq_true_iff.2 ⟨h1,h2⟩) hn
def AR(A:Ad):ej (SY A):=⟨100,#[],true,oE A (skip A.O cm)⟩
theorem Zf{A:Ad}{f:FuncId}{fn:Func}{b:Code}{N:Nat}(hf:Tryz.prog.funcs[f]? =some fn)(hb:fn.body=some b)(hN:fn.ntmps=N)(h1:1<=N)(hr:fn.results.toList=[])(he:∀args w,(callFunc f args).run Tryz.prog w= .ok (.enter f args) w)
 {P:St->Prop}{φ:St->St}{g:St×List Value->af (Ex×E (SY A))}(hAt:At (SY A) N b (fun p:St×List Value=>Es A p.1 p.2 [(0,.st 0)]) g)
 (hg:∀st bx (Q:Ex×E (SY A)->Prop),P st->(∀x e,(x= .normal∨x= .ret)->e.c=⟨φ st,bx⟩->Q (x,e))->(g (st,bx)).aD Q)(hm:∀st,st.ab.length<=(φ st).ab.length):(ej.mk f #[] true (oX A P φ):ej (SY A)).Ok:=by
 refine⟨he,?_,AM hm⟩
 refine At.fn (Y:=SY A) hf hb hN (π:=St×List Value) (arg:=fun _=>[.st 0]) (core:=fun p=>⟨p.1,p.2⟩) (fun _=>h1) hAt (fun args c Q h=> ?_)
 have h:(oX A P φ args c).aD Q:=h
 unfold oX at h
 split at h
 ·refine⟨(c.st,c.bx),rfl,rfl,hg _ _ _ h.1 (fun x e hx hec=> ?_)⟩
  obtain⟨ec,etm⟩:=e
  have aaH:ec=⟨φ c.st,c.bx⟩:=hec
  subst aaH
  rcases hx with rfl|rfl
  ·show(match mL etm fn.results.toList with
    |some r=>af.ae (r,(⟨φ c.st,c.bx⟩:aq (SY A)))
    |none=> .fail).aD Q
   rw[hr];exact h.2
  ·show(match mL etm fn.results.toList with
    |some r=>af.ae (r,(⟨φ c.st,c.bx⟩:aq (SY A)))
    |none=> .fail).aD Q
   rw[hr];exact h.2
 ·exact h.elim
theorem aaI{A:Ad}{f:FuncId}{fn:Func}{b:Code}{N:Nat}(hf:Tryz.prog.funcs[f]? =some fn)(hb:fn.body=some b)(hN:fn.ntmps=N)(h1:1<=N)(hr:fn.results.toList=[])(he:∀args w,(callFunc f args).run Tryz.prog w= .ok (.enter f args) w)
 {φ:St->St}{g:St×List Value->af (Ex×E (SY A))}(hAt:At (SY A) N b (fun p:St×List Value=>Es A p.1 p.2 [(0,.st 0)]) g)
 (hg:∀st bx (Q:Ex×E (SY A)->Prop),(∀x e,(x= .normal∨x= .ret)->e.c=⟨φ st,bx⟩->Q (x,e))->(g (st,bx)).aD Q)(hm:∀st,st.ab.length<=(φ st).ab.length):(ej.mk f #[] true (oE A φ):ej (SY A)).Ok:=by
 refine⟨he,?_,nL hm⟩
 refine At.fn (Y:=SY A) hf hb hN (π:=St×List Value) (arg:=fun _=>[.st 0]) (core:=fun p=>⟨p.1,p.2⟩) (fun _=>h1) hAt (fun args c Q h=> ?_)
 have h:(oE A φ args c).aD Q:=h
 unfold oE at h
 split at h
 ·refine⟨(c.st,c.bx),rfl,rfl,hg _ _ _ (fun x e hx hec=> ?_)⟩
  obtain⟨ec,etm⟩:=e
  have aaH:ec=⟨φ c.st,c.bx⟩:=hec
  subst aaH
  rcases hx with rfl|rfl
  ·show(match mL etm fn.results.toList with
    |some r=>af.ae (r,(⟨φ c.st,c.bx⟩:aq (SY A)))
    |none=> .fail).aD Q
   rw[hr];exact h
  ·show(match mL etm fn.results.toList with
    |some r=>af.ae (r,(⟨φ c.st,c.bx⟩:aq (SY A)))
    |none=> .fail).aD Q
   rw[hr];exact h
 ·exact h.elim
theorem CD(A:Ad)(hA:A.Ok):(AR A).Ok:=by
 refine aaI (A:=A) Tryz.func100 Aa (N:=Tryz.f100.ntmps) rfl (by decide) rfl (fun args w=>by kernel_rfl) (g:=fun p=> .ae (.normal,Es A (skip A.O cm p.1) p.2 [(0,.st 0)])) ?_ (fun st bx Q hQ=>hQ _ _ (.inl rfl) rfl) (EO A.O cm)
 have:=ER A hA
 exact⟨fun p=>this.wp (p.1,p.2,⟨⟩),fun p=>this.mono (p.1,p.2,⟨⟩)⟩
def kG(A:Ad)(p:St×List Value):E (SY A):=⟨⟨p.1,p.2⟩,[(0,.st 0)]⟩
def G9(A:Ad)(e:E (SY A)):Option (St×List Value):=match Ev.look e.tm 0 with
 | .st 0=>some (e.c.st,e.c.bx)
 |_=>none
theorem CE{A:Ad}(e:E (SY A))(p:St×List Value)(h:G9 A e=some p):fF e (kG A p):=by
 unfold G9 at h
 split at h
 ·rename_i h0
  simp only[Option.some.injEq]at h
  subst h
  refine⟨rfl,fun i=> ?_⟩
  have hl:Ev.look (kG A (e.c.st,e.c.bx)).tm i=if i=0 then .st 0 else .jk:=by
   show Ev.look [(0,SV.st 0)] i=_
   rw[aF];rfl
  rw[hl]
  by_cases hi:i=0
  ·rw[if_pos hi,hi];exact .inr (.inl h0.symm)
  ·rw[if_neg hi];exact .inl rfl
 ·cases h
def atB(A:Ad)(k:Nat)(p:St×List Value×Bool):E (SY A):=⟨⟨p.1,p.2.1⟩,[(0,.st 0),(k,.val (.bool p.2.2))]⟩
def inB(A:Ad)(k:Nat)(e:E (SY A)):Option (St×List Value×Bool):=match Ev.look e.tm 0,Ev.look e.tm k with
 | .st 0,.tt=>some (e.c.st,e.c.bx,true)
 | .st 0,.ff=>some (e.c.st,e.c.bx,false)
 | .st 0,.val (.bool b)=>some (e.c.st,e.c.bx,b)
 |_,_=>none
theorem aaJ{A:Ad}(k:Nat)(hk:k≠0)(e:E (SY A))(p:St×List Value×Bool)(h:inB A k e=some p):fF e (atB A k p):=by
 have key:Ev.look e.tm 0= .st 0->(Ev.look e.tm k= .val (.bool p.2.2)∨iE (Ev.look e.tm k)=some (.bool p.2.2))->(p.1,p.2.1)=(e.c.st,e.c.bx)->fF e (atB A k p):=by
  intro h0 hv hp
  have hp1:=congrArg Prod.fst hp
  have UB:=congrArg Prod.snd hp
  simp only at hp1 UB
  refine⟨by show(⟨p.1,p.2.1⟩:aq (SY A))=e.c;rw[hp1,UB],fun i=> ?_⟩
  have hl:Ev.look (atB A k p).tm i=if i=0 then .st 0 else if i=k then .val (.bool p.2.2)else .jk:=by
   show Ev.look [(0,SV.st 0),(k,.val (.bool p.2.2))] i=_
   rw[aF,aF];rfl
  rw[hl]
  by_cases hi:i=0
  ·rw[if_pos hi,hi];exact .inr (.inl h0.symm)
  ·rw[if_neg hi]
   by_cases hi:i=k
   ·rw[if_pos hi,hi]
    rcases hv with hv|hv
    ·exact .inr (.inl hv.symm)
    ·exact .inr (.inr ⟨_,hv,rfl⟩)
   ·rw[if_neg hi];exact .inl rfl
 unfold inB at h
 split at h
 ·rename_i h0 h1;simp only[Option.some.injEq]at h;subst h;exact key h0 (.inr (by rw[h1];rfl)) rfl
 ·rename_i h0 h1;simp only[Option.some.injEq]at h;subst h;exact key h0 (.inr (by rw[h1];rfl)) rfl
 ·rename_i h0 h1;simp only[Option.some.injEq]at h;subst h;exact key h0 (.inl h1) rfl
 ·cases h
def nQ(O:U)(st:St):af (Step St (Bool×St)):=
 (.aj (st.ch==42)
   (.aj ((aa O st).ch==47)
     (.ae (Step.out (true,aa O (aa O st))))
     (.ae (Step.go (aa O st))))
   (.ae (Step.out (false,st))))
def uz(A:Ad)(bx:List Value)(q:Bool×St):Ex×E (SY A):=match q with
 |(true,st)=>(.ret,⟨⟨st,bx⟩,[(0,.st 0),(2,.val (.bool true))]⟩)
 |(false,st)=>(.exit 2,⟨⟨st,bx⟩,[(0,.st 0)]⟩)
abbrev sF:Code:=a_ (aX (av Tryz.f102) 2)
def Km:Ex->List Nat
 | .ret=>[0,2]
 |_=>[0]
theorem Qw(A:Ad)(st:St)(bx:List Value):(az (cfE A Tryz.f102.ntmps) sF (kG A (st,bx))).bind (fun xe=> .ae (xe.1,cU (Km xe.1) xe.2))=
 (nQ A.O st).bind fun s=> .ae (jW (fun st=>kG A (st,bx)) (uz A bx) s):=by kernel_rfl
def cH(O:U)(st:St):Bool×St:=cC (nQ O) (left O) (false,mw) st
theorem CF(O:U)(st:St):(nQ O st).cg:=⟨⟨trivial,trivial⟩,trivial⟩
theorem AS(O:U)(st:St):(nQ O st).aD fun s=>match s with
 | .go a'=>left O a'<left O st
 | .out _=>True:=
 ⟨fun h=>⟨fun _=>trivial,fun _=>aQ O st (fun e=>by rw[e]at h;cases h)⟩,fun _=>trivial⟩
theorem Qy(A:Ad)(hA:A.Ok):At (SY A) Tryz.f102.ntmps (.block 2 (.loop sF)) (kG A) (fun p=> .ae (iq 2 (uz A p.2 (cH A.O p.1)))):=by
 have:=At.Iq (Y:=SY A) (id:=2) (F:=fun bx st=>kG A (st,bx)) (G:=uz A) (body:=nQ A.O) (left A.O) (d:=(false,mw)) (b:=sF) (N:=Tryz.f102.ntmps)
  (fun bx=>At.same (db A hA) (bw A hA (lg A hA) _ [] 0) Km (fun st=>Qw A st bx)) (fun bx q=>by obtain⟨⟨⟩|⟨⟩,st⟩:=q<;>simp[uz]) (CF A.O) (AS A.O)
 exact this
def yb(A:Ad)(p:St×List Value):af (Ex×E (SY A)):=
 .aj (cH A.O p.1).1 (.ae (.ret,⟨⟨(cH A.O p.1).2,p.2⟩,[(0,.st 0),(2,.val (.bool true))]⟩)) (.ae (.normal,kG A ((cH A.O p.1).2,p.2)))
theorem M3(A:Ad)(hA:A.Ok):cy (SY A) Tryz.f102.ntmps 2 (.loop sF) (cx (G9 A) (yb A)):=by
 refine eW (At.refine (Qy A hA) (fun p Q hs=>⟨p,fF.refl _,?_⟩)) CE
 unfold yb at hs
 show∃e',fF (iq 2 (uz A p.2 (cH A.O p.1))).2 e'∧Q ((iq 2 (uz A p.2 (cH A.O p.1))).1,e')
 generalize cH A.O p.1=q at*
 obtain⟨⟨⟩|⟨⟩,st⟩:=q
 ·exact⟨_,fF.refl _,hs.2 rfl⟩
 ·exact⟨_,fF.refl _,hs.1 rfl⟩
abbrev ahy(A:Ad):eS (SY A):=iM A (AQ A) Tryz.f102.ntmps [(2,cx (G9 A) (yb A))] 0
def scB(O:U)(st:St):af (Step St (Bool×St)):=
 (.aj (decide (st.ch>=0))
   (.aj ((cH O st).fst)
     (.ae (Step.out (true,(cH O st).snd)))
     (.ae (Step.go (aa O (cH O st).snd))))
   (.ae (Step.out (false,st))))
def scX(A:Ad)(bx:List Value)(q:Bool×St):Ex×E (SY A):=match q with
 |(true,st)=>(.ret,⟨⟨st,bx⟩,[(0,.st 0),(2,.val (.bool true))]⟩)
 |(false,st)=>(.exit 0,⟨⟨st,bx⟩,[(0,.st 0)]⟩)
abbrev sG:Code:=a_ (aX (av Tryz.f102) 0)
theorem aec(A:Ad)(st:St)(bx:List Value):(az (ahy A) sG (kG A (st,bx))).bind (fun xe=> .ae (xe.1,cU (Km xe.1) xe.2))=
 (.aj (decide (st.ch>=0))
   (.aY (cy (SY A) Tryz.f102.ntmps 2 (.loop sF) (cx (G9 A) (yb A)))
     (.aj ((cH A.O st).fst)
       (.ae (scX A bx (true,(cH A.O st).snd)))
       (.ae (.normal,kG A (aa A.O (cH A.O st).snd,bx)))))
   (.ae (scX A bx (false,st)))):=by kernel_rfl
theorem Is(O:U)(st:St):(cH O st).1=false->(cH O st).2=st∨left O (cH O st).2<left O st:=by
 unfold cH
 refine cp (body:=nQ O) (μ:=left O) (fun a=>a=st∨left O a<left O st) (P:=fun(b:Bool×St)=>b.1=false->b.2=st∨left O b.2<left O st) (fun a ha=>⟨fun h=>⟨(fun h2 h3=>by cases h3),fun _=> ?_⟩,(fun _ _=>ha)⟩) st (.inl rfl)
 have h3:=aQ O a (fun e=>by rw[e]at h;cases h)
 refine⟨.inr ?_,h3⟩
 show left O (aa O a)<_
 rcases ha with rfl|ha
 ·exact h3
 ·omega
theorem gB(O:U)(st:St):left O (aa O st)<=left O st:=by
 by_cases h:st.ch= -1
 ·by_cases hp:st.p<O.size
  ·have:=kF O (aB st) O.size st.ao st.p (aS st) st.ab hp
   have h1:(aa O st).p=(ak O (aB st) (O.size+1) st.ao st.p (aS st) st.ab).p:=rfl
   unfold left
   rw[if_pos h,h1]
   split<;>omega
  ·have:=nP O (aB st) O.size st.ao st.p (aS st) st.ab hp
   have h1:(aa O st).p=st.p:=by show(ak _ _ _ _ _ _ _).p=_;rw[this]
   have h2:(aa O st).ch= -1:=by show(ak _ _ _ _ _ _ _).ch=_;rw[this]
   unfold left
   rw[if_pos h,h1,h2]
   simp
 ·exact Nat.le_of_lt (aQ O st h)
def pR(O:U)(st:St):Bool×St:=cC (scB O) (left O) (false,mw) st
theorem M4(O:U)(st:St):(scB O st).cg:=⟨⟨trivial,trivial⟩,trivial⟩
theorem CG(O:U)(st:St):(scB O st).aD fun s=>match s with
 | .go a'=>left O a'<left O st
 | .out _=>True:=by
 refine⟨fun h=>⟨fun _=>trivial,fun h2=> ?_⟩,fun _=>trivial⟩
 have Qz:st.ch>=0:=of_decide_eq_true h
 show left O (aa O (cH O st).2)<left O st
 rcases Is O st h2 with h3|h3
 ·rw[h3];exact aQ O st (by omega)
 ·have:=gB O (cH O st).2;omega
theorem aed(A:Ad)(hA:A.Ok):At (SY A) Tryz.f102.ntmps (.block 0 (.loop sG)) (kG A) (fun p=> .ae (iq 0 (scX A p.2 (pR A.O p.1)))):=by
 have:=At.Iq (Y:=SY A) (id:=0) (F:=fun bx st=>kG A (st,bx)) (G:=scX A) (body:=scB A.O) (left A.O) (d:=(false,mw)) (b:=sG) (N:=Tryz.f102.ntmps)
  (fun bx=>At.qB (db A hA) (bw A hA (lg A hA) _ [(2,cx (G9 A) (yb A))] 0) Km (fun st Q hs=>by
    refine(congrArg (fun T=>af.aD T Q) (aec A st bx)).mpr ?_
    exact⟨fun h=>⟨M3 A hA,hs.1 h⟩,hs.2⟩)) (fun bx q=>by obtain⟨⟨⟩|⟨⟩,st⟩:=q<;>simp[scX]) (M4 A.O) (CG A.O)
 exact this
def scG(A:Ad)(p:St×List Value):af (Ex×E (SY A)):=
 .aj (pR A.O p.1).1 (.ae (.ret,⟨⟨(pR A.O p.1).2,p.2⟩,[(0,.st 0),(2,.val (.bool true))]⟩)) (.ae (.normal,kG A ((pR A.O p.1).2,p.2)))
theorem aaM(A:Ad)(hA:A.Ok):cy (SY A) Tryz.f102.ntmps 0 (.loop sG) (cx (G9 A) (scG A)):=by
 refine eW (At.refine (aed A hA) (fun p Q hs=>⟨p,fF.refl _,?_⟩)) CE
 unfold scG at hs
 show∃e',fF (iq 0 (scX A p.2 (pR A.O p.1))).2 e'∧Q ((iq 0 (scX A p.2 (pR A.O p.1))).1,e')
 generalize pR A.O p.1=q at*
 obtain⟨⟨⟩|⟨⟩,st⟩:=q
 ·exact⟨_,fF.refl _,hs.2 rfl⟩
 ·exact⟨_,fF.refl _,hs.1 rfl⟩
abbrev Zg(A:Ad):eS (SY A):=iM A (AQ A) Tryz.f102.ntmps [(0,cx (G9 A) (scG A))] 0
theorem nR{A:Ad}(hA:A.Ok){f:FuncId}{fn:Func}(hf:Tryz.prog.funcs[f]? =some fn)(he:∀args w,(callFunc f args).run Tryz.prog w= .ok (.enter f args) w){C:eS (SY A)}(hC:C.Ok)
 {G:List SV->aq (SY A)->af (SV×aq (SY A))}(h:∀args c (Q:SV×aq (SY A)->Prop),(G args c).aD Q->(eh C fn args c).aD fun p=>Q p∨∃u,iE p.1=some u∧Q (.val u,p.2)):(ej.mk f #[] true G:ej (SY A)).Ok:=by
 refine⟨he,fun args c bl w bS Q cK hc hs=> ?_,fun args c Q hb hs=> ?_⟩
 ·refine(fM (db A hA) hC (Y:=SY A) hf args c bl w bS _ cK hc (h args c Q hs)).mono ?_
  rintro e w' (⟨sv,c',v,dw,hq|⟨u,hu,hq⟩,h2,h3,h4,h5,h6⟩|⟨h1,p,hq|⟨u,hu,hq⟩,hb⟩)
  ·exact .inl ⟨sv,c',v,dw,hq,h2,h3,h4,h5,h6⟩
  ·exact .inl ⟨.val u,c',v,dw,hq,h2,fs h3 hu,h4,h5,h6⟩
  ·exact .inr ⟨h1,p,hq,hb⟩
  ·exact .inr ⟨h1,_,hq,hb⟩
 ·obtain⟨p,hq|⟨u,hu,hq⟩,fX⟩:=iT (db A hA) hC args c _ hb (h args c Q hs)
  ·exact⟨p,hq,fX⟩
  ·exact⟨_,hq,fX⟩
theorem bB{α:Type}{t t':af α}(h:t=t'){Q:α->Prop}(hs:t'.aD Q):t.aD Q:=by rw[h];exact hs
def ir:U:=ByteArray.mk #[99,111,109,109,101,110,116,32,110,111,116,32,116,101,114,109,105,110,97,116,101,100]
def aT(O:U)(st:St):Bool×St:=if(pR O st).1=true then(true,(pR O st).2)else(false,bF 0 ir (pR O st).2)
def Zh(A:Ad)(f:St->Bool×St)(args:List SV)(c:aq (SY A)):af (SV×aq (SY A)):=
 match args with
 |[.st 0]=> .ae (.val (.bool (f c.st).1),⟨(f c.st).2,c.bx⟩)
 |_=> .fail
theorem yc(A:Ad)(st:St)(bx:List Value):eh (Zg A) Tryz.f102 [.st 0] ⟨st,bx⟩=
 (.aY (cy (SY A) Tryz.f102.ntmps 0 (.loop sG) (cx (G9 A) (scG A)))
   (.aj ((pR A.O st).fst)
     (.ae ((SV.val (Value.bool true),aq.mk (pR A.O st).snd bx)))
     (.ae ((SV.ff,aq.mk (bF 0 ir (pR A.O st).snd) bx))))):=by kernel_rfl
def aef(A:Ad):ej (SY A):=⟨102,#[],true,Zh A (aT A.O)⟩
theorem VI(A:Ad)(hA:A.Ok):(aef A).Ok:=by
 refine nR hA Tryz.func102 (fun args w=>by kernel_rfl) (C:=Zg A) (bw A hA (lg A hA) Tryz.f102.ntmps [(0,cx (G9 A) (scG A))] 0) (fun args c Q h=> ?_)
 unfold Zh at h
 split at h
 ·obtain⟨st,bx⟩:=c
  refine bB (yc A st bx) ?_
  have h':Q (.val (.bool (aT A.O st).1),⟨(aT A.O st).2,bx⟩):=h
  unfold aT at h'
  refine⟨aaM A hA,fun h1=> ?_,fun h1=> ?_⟩
  ·rw[if_pos h1]at h';exact .inl h'
  ·rw[if_neg (by simp[h1])]at h';exact .inr ⟨_,rfl,h'⟩
 ·exact h.elim
def jx:U:=ByteArray.mk #[105,110,118,97,108,105,100,32,99,104,97,114,97,99,116,101,114,32,37,113,32,105,110,32,37,115,32,101,115,99,97,112,101]
def eG(b:Int)(c:Int):Int:=if aE c=true then IntKind.u32.wrap (IntKind.u32.wrap c-48)else if 97<=ay c∧ay c<=102 then IntKind.u32.wrap (IntKind.u32.wrap (IntKind.u32.wrap (ay c)-97)+10)else b
def CH(O:U)(b:Int)(p:St×Int×Int):af (Step (St×Int×Int) (St×Int×Option Bool)):=
 (.aj (decide (p.2.2>0))
   (.aj (decide (p.1.ch<0))
     (.ae (Step.out (p.1,0,some true)))
     (.aj (decide (eG b p.1.ch>=b))
       (.aY (IntKind.i64.wrap b=2∨IntKind.i64.wrap b=8∨IntKind.i64.wrap b=10∨IntKind.i64.wrap b=16)
         (.ae (Step.out (error jx p.1,0,some false))))
       (.ae (Step.go (aa O p.1,IntKind.u32.wrap (IntKind.u32.wrap (p.2.1*b)+eG b p.1.ch),IntKind.i64.wrap (p.2.2-1))))))
   (.ae (Step.out (p.1,p.2.1,none))))
def o7(A:Ad)(b m:Int)(bx:List Value)(p:St×Int×Int):E (SY A):=⟨⟨p.1,bx⟩,[(0,.st 0),(6,.val (.int .u32 b)),(7,.val (.int .u32 m)),(8,.val (.int .u32 p.2.1)),(9,.val (.int .i64 p.2.2))]⟩
def uA(A:Ad)(b m:Int)(bx:List Value)(q:St×Int×Option Bool):Ex×E (SY A):=match q with
 |(st,x,some r)=>(.ret,⟨⟨st,bx⟩,[(0,.st 0),(4,.val (.bool r))]⟩)
 |(st,x,none)=>(.exit 1,⟨⟨st,bx⟩,[(0,.st 0),(6,.val (.int .u32 b)),(7,.val (.int .u32 m)),(8,.val (.int .u32 x))]⟩)
def Zi:Ex->List Nat
 | .ret=>[0,4]
 | .normal=>[0,6,7,8,9]
 |_=>[0,6,7,8]
abbrev sH:Code:=a_ (aX (av Tryz.f99) 1)
theorem aaN(A:Ad)(b m:Int)(bx:List Value)(p:St×Int×Int):(az (cfE A Tryz.f99.ntmps) sH (o7 A b m bx p)).bind (fun xe=> .ae (xe.1,cU (Zi xe.1) xe.2))=
 (.aj (decide (p.2.2>0))
   (.aj (decide (p.1.ch<0))
     (.ae (uA A b m bx (p.1,0,some true)))
     (.aj (aE p.1.ch)
       (.aj (decide (IntKind.u32.wrap (IntKind.u32.wrap p.1.ch-48)>=b))
         (.aY (IntKind.i64.wrap b=2∨IntKind.i64.wrap b=8∨IntKind.i64.wrap b=10∨IntKind.i64.wrap b=16)
           (.ae (uA A b m bx (error jx p.1,0,some false))))
         (.ae (.normal,o7 A b m bx (aa A.O p.1,IntKind.u32.wrap (IntKind.u32.wrap (p.2.1*b)+IntKind.u32.wrap (IntKind.u32.wrap p.1.ch-48)),IntKind.i64.wrap (p.2.2-1)))))
       (.aj (decide (97<=ay p.1.ch))
         (.aj (decide (ay p.1.ch<=102))
           (.aj (decide (IntKind.u32.wrap (IntKind.u32.wrap (IntKind.u32.wrap (ay p.1.ch)-97)+10)>=b))
             (.aY (IntKind.i64.wrap b=2∨IntKind.i64.wrap b=8∨IntKind.i64.wrap b=10∨IntKind.i64.wrap b=16)
               (.ae (uA A b m bx (error jx p.1,0,some false))))
             (.ae (.normal,o7 A b m bx (aa A.O p.1,IntKind.u32.wrap (IntKind.u32.wrap (p.2.1*b)+IntKind.u32.wrap (IntKind.u32.wrap (IntKind.u32.wrap (ay p.1.ch)-97)+10)),IntKind.i64.wrap (p.2.2-1)))))
           (.aj (decide (b>=b))
             (.aY (IntKind.i64.wrap b=2∨IntKind.i64.wrap b=8∨IntKind.i64.wrap b=10∨IntKind.i64.wrap b=16)
               (.ae (uA A b m bx (error jx p.1,0,some false))))
             (.ae (.normal,o7 A b m bx (aa A.O p.1,IntKind.u32.wrap (IntKind.u32.wrap (p.2.1*b)+b),IntKind.i64.wrap (p.2.2-1))))))
         (.aj (decide (b>=b))
           (.aY (IntKind.i64.wrap b=2∨IntKind.i64.wrap b=8∨IntKind.i64.wrap b=10∨IntKind.i64.wrap b=16)
             (.ae (uA A b m bx (error jx p.1,0,some false))))
           (.ae (.normal,o7 A b m bx (aa A.O p.1,IntKind.u32.wrap (IntKind.u32.wrap (p.2.1*b)+b),IntKind.i64.wrap (p.2.2-1))))))))
   (.ae (uA A b m bx (p.1,p.2.1,none)))):=by kernel_rfl
theorem QA(A:Ad)(hA:A.Ok)(b m:Int)(bx:List Value):At (SY A) Tryz.f99.ntmps sH (o7 A b m bx) (fun p=>(CH A.O b p).bind fun s=> .ae (jW (o7 A b m bx) (uA A b m bx) s)):=by
 refine At.qB (db A hA) (bw A hA (lg A hA) _ [] 0) Zi (fun p Q hs=> ?_)
 refine bB (aaN A b m bx p) ?_
 unfold CH at hs
 refine⟨fun h1=>⟨(hs.1 h1).1,fun h2=> ?_⟩,hs.2⟩
 have h3:=(hs.1 h1).2 h2
 refine⟨fun h4=> ?_,fun h4=>⟨fun h5=>⟨fun h6=> ?_,fun h6=> ?_⟩,fun h5=> ?_⟩⟩
 ·rw[show eG b p.1.ch=IntKind.u32.wrap (IntKind.u32.wrap p.1.ch-48) from if_pos h4]at h3;exact h3
 ·rw[show eG b p.1.ch=_ from(if_neg (by simp[h4])).trans (if_pos ⟨of_decide_eq_true h5,of_decide_eq_true h6⟩)]at h3;exact h3
 ·rw[show eG b p.1.ch=b from(if_neg (by simp[h4])).trans (if_neg (fun h=>of_decide_eq_false h6 h.2))]at h3;exact h3
 ·rw[show eG b p.1.ch=b from(if_neg (by simp[h4])).trans (if_neg (fun h=>of_decide_eq_false h5 h.1))]at h3;exact h3
def It(p:St×Int×Int):Nat:=p.2.2.toNat
def uB(b:Int)(p:St×Int×Int):Prop:=(b=8∨b=16)∧p.2.2<=8
theorem Iu(O:U)(b:Int)(p:St×Int×Int):(CH O b p).cg:=⟨⟨trivial,trivial,trivial⟩,trivial⟩
theorem aG{n:Int}(h1: -9223372036854775808<=n)(h2:n<=9223372036854775807):IntKind.i64.wrap n=n:=kY h1 h2
theorem wM(O:U)(b:Int)(p:St×Int×Int)(hI:uB b p):(CH O b p).aD fun s=>match s with
 | .go a'=>uB b a'∧It a'<It p
 | .out _=>True:=by
 obtain⟨hb,hi⟩:=hI
 refine⟨fun h1=>⟨fun _=>trivial,fun _=>⟨fun _=>⟨?_,trivial⟩,fun _=> ?_⟩⟩,fun _=>trivial⟩
 ·rcases hb with rfl|rfl
  ·exact .inr (.inl rfl)
  ·exact .inr (.inr (.inr rfl))
 ·have h2:p.2.2>0:=of_decide_eq_true h1
  have h3:=aG (n:=p.2.2-1) (by omega) (by omega)
  show((b=8∨b=16)∧IntKind.i64.wrap (p.2.2-1)<=8)∧(IntKind.i64.wrap (p.2.2-1)).toNat<p.2.2.toNat
  rw[h3]
  exact⟨⟨hb,by omega⟩,by omega⟩
def bZ(O:U)(b:Int)(p:St×Int×Int):St×Int×Option Bool:=cC (CH O b) It (mw,0,none) p
theorem aaO(A:Ad)(hA:A.Ok):At (SY A) Tryz.f99.ntmps (.block 1 (.loop sH)) (fun p:((St×Int×Int)×Int×List Value)×Int=>o7 A p.2 p.1.2.1 p.1.2.2 p.1.1)
 (fun p=> .aY (uB p.2 p.1.1) (.ae (iq 1 (uA A p.2 p.1.2.1 p.1.2.2 (bZ A.O p.2 p.1.1))))):=by
 refine At.par (F:=fun b (p:(St×Int×Int)×Int×List Value)=>o7 A b p.2.1 p.2.2 p.1) (g:=fun b (p:(St×Int×Int)×Int×List Value)=> .aY (uB b p.1) (.ae (iq 1 (uA A b p.2.1 p.2.2 (bZ A.O b p.1))))) (fun b=> ?_)
 exact At.VH (Y:=SY A) (id:=1) (κ:=Int×List Value) (F:=fun k p=>o7 A b k.1 k.2 p) (G:=fun k q=>uA A b k.1 k.2 q) (body:=CH A.O b) It (mw,0,none) (uB b) (fun k=>QA A hA b k.1 k.2) (fun k q=>by obtain⟨st,x,_|r⟩:=q<;>simp[uA]) (Iu A.O b) (wM A.O b)
def inE(A:Ad)(e:E (SY A)):Option (((St×Int×Int)×Int×List Value)×Int):=match Ev.look e.tm 0,Ev.look e.tm 6,Ev.look e.tm 7,Ev.look e.tm 8,Ev.look e.tm 9 with
 | .st 0,.val (.int .u32 b),.val (.int .u32 m),.val (.int .u32 x),.val (.int .i64 i)=>some (((e.c.st,x,i),m,e.c.bx),b)
 |_,_,_,_,_=>none
theorem aaP{A:Ad}(e:E (SY A))(p:((St×Int×Int)×Int×List Value)×Int)(h:inE A e=some p):fF e (o7 A p.2 p.1.2.1 p.1.2.2 p.1.1):=by
 unfold inE at h
 split at h
 ·rename_i h0 h6 h7 h8 h9
  simp only[Option.some.injEq]at h
  subst h
  exact wj.lax (UW rfl ⟨h0,h6,h7,h8,h9,trivial⟩)
 ·cases h
def QB(A:Ad)(p:((St×Int×Int)×Int×List Value)×Int):af (Ex×E (SY A)):=
 .aY (uB p.2 p.1.1) (.aj (bZ A.O p.2 p.1.1).2.2.isSome
  (.ae (.ret,⟨⟨(bZ A.O p.2 p.1.1).1,p.1.2.2⟩,[(0,.st 0),(4,.val (.bool ((bZ A.O p.2 p.1.1).2.2.getD false)))]⟩))
  (.ae (.normal,⟨⟨(bZ A.O p.2 p.1.1).1,p.1.2.2⟩,[(0,.st 0),(6,.val (.int .u32 p.2)),(7,.val (.int .u32 p.1.2.1)),(8,.val (.int .u32 (bZ A.O p.2 p.1.1).2.1))]⟩)))
theorem VJ(A:Ad)(hA:A.Ok):cy (SY A) Tryz.f99.ntmps 1 (.loop sH) (cx (inE A) (QB A)):=by
 refine eW (At.refine (g':=QB A) (aaO A hA) (fun p Q hs=>⟨p,fF.refl _,hs.1,?_⟩)) aaP
 have hs:=hs.2
 show∃e',fF (iq 1 (uA A p.2 p.1.2.1 p.1.2.2 (bZ A.O p.2 p.1.1))).2 e'∧Q ((iq 1 (uA A p.2 p.1.2.1 p.1.2.2 (bZ A.O p.2 p.1.1))).1,e')
 generalize bZ A.O p.2 p.1.1=q at*
 obtain⟨st,x,_|r⟩:=q
 ·exact⟨_,fF.refl _,hs.2 rfl⟩
 ·exact⟨_,fF.refl _,hs.1 rfl⟩
abbrev aeg(A:Ad):eS (SY A):=iM A (AQ A) Tryz.f99.ntmps [(1,cx (inE A) (QB A))] 0
def VK{α:Type}:List Bool->af α->af α->af α
 |[],_,R=>R
 |b::cs,L,R=> .aj b L (VK cs L R)
theorem yd{α:Type}{L R:af α}{Q:α->Prop}:∀(cs:List Bool),(cs.any id=true->L.aD Q)->(cs.any id=false->R.aD Q)->(VK cs L R).aD Q
 |[],_,h=>h rfl
 |b::cs,hl,hr=>⟨fun hb=>hl (by simp[hb]),fun hb=>yd cs (fun h=>hl (by simp only[List.any_cons,id,h,Bool.or_true])) (fun h=>hr (by simp only[List.any_cons,id,hb,h,Bool.or_self]))⟩
def CI:U:=ByteArray.mk #[111,99,116,97,108,32,101,115,99,97,112,101,32,118,97,108,117,101,32,37,100,32,62,32,50,53,53]
def jX:U:=ByteArray.mk #[101,115,99,97,112,101,32,105,115,32,105,110,118,97,108,105,100,32,85,110,105,99,111,100,101,32,99,111,100,101,32,112,111,105,110,116,32,37,35,85]
def yf:U:=ByteArray.mk #[117,110,107,110,111,119,110,32,101,115,99,97,112,101]
def dG(b m:Int)(r:St×Int×Option Bool):Bool×St:=
 match r.2.2 with
 |some x=>(x,r.1)
 |none=>
  if r.2.1>m∧b=8 then(false,error CI r.1)
  else if r.2.1>m∨(55296<=r.2.1∧r.2.1<57344)then(false,error jX r.1)
  else(true,r.1)
def CJ(A:Ad)(bx:List Value)(r:St×Int×Option Bool):af (SV×aq (SY A)):=
 .aj (decide (55296<=r.2.1)) (.aj (decide (r.2.1<57344)) (.ae (.ff,⟨error jX r.1,bx⟩)) (.ae (.tt,⟨r.1,bx⟩))) (.ae (.tt,⟨r.1,bx⟩))
def o8(A:Ad)(bx:List Value)(b m:Int)(p:St×Int×Int):af (SV×aq (SY A)):=
 .aY (cy (SY A) Tryz.f99.ntmps 1 (.loop sH) (cx (inE A) (QB A))) (.aY (uB b p) (.aj (bZ A.O b p).2.2.isSome
  (.ae (.val (.bool ((bZ A.O b p).2.2.getD false)),⟨(bZ A.O b p).1,bx⟩))
  (.aj (decide ((bZ A.O b p).2.1>m))
    (.aj (b==8) (.ae (.ff,⟨error CI (bZ A.O b p).1,bx⟩)) (.aj (decide ((bZ A.O b p).2.1>m)) (.ae (.ff,⟨error jX (bZ A.O b p).1,bx⟩)) (CJ A bx (bZ A.O b p))))
    (.aj (decide ((bZ A.O b p).2.1>m)) (.ae (.ff,⟨error jX (bZ A.O b p).1,bx⟩)) (CJ A bx (bZ A.O b p))))))
def ahz(A:Ad)(q:Int)(st:St)(bx:List Value):af (SV×aq (SY A)):=
 VK [st.ch==q,st.ch==97,st.ch==98,st.ch==102,st.ch==110,st.ch==114,st.ch==116,st.ch==118,st.ch==92] (.ae (.tt,⟨aa A.O st,bx⟩))
  (VK [st.ch==48,st.ch==49,st.ch==50,st.ch==51,st.ch==52,st.ch==53,st.ch==54,st.ch==55] (o8 A bx 8 255 (st,0,3))
    (.aj (st.ch==120) (o8 A bx 16 255 (aa A.O st,0,2))
      (.aj (st.ch==117) (o8 A bx 16 1114111 (aa A.O st,0,4))
        (.aj (st.ch==85) (o8 A bx 16 1114111 (aa A.O st,0,8))
          (.aj (decide (st.ch<0)) (.ae (.tt,⟨st,bx⟩)) (.ae (.ff,⟨error yf st,bx⟩)))))))
theorem M5(A:Ad)(st:St)(bx:List Value)(q:Int):eh (aeg A) Tryz.f99 [.st 0,.val (.int .i32 q)] ⟨st,bx⟩=ahz A q st bx:=by kernel_rfl
def bt(O:U)(q:Int)(st:St):Bool×St:=
 if [st.ch==q,st.ch==97,st.ch==98,st.ch==102,st.ch==110,st.ch==114,st.ch==116,st.ch==118,st.ch==92].any id=true then(true,aa O st)
 else if [st.ch==48,st.ch==49,st.ch==50,st.ch==51,st.ch==52,st.ch==53,st.ch==54,st.ch==55].any id=true then dG 8 255 (bZ O 8 (st,0,3))
 else if st.ch=120 then dG 16 255 (bZ O 16 (aa O st,0,2))
 else if st.ch=117 then dG 16 1114111 (bZ O 16 (aa O st,0,4))
 else if st.ch=85 then dG 16 1114111 (bZ O 16 (aa O st,0,8))
 else if st.ch<0 then(true,st)else(false,error yf st)
def aaQ{A:Ad}(bx:List Value)(Q:SV×aq (SY A)->Prop)(r:Bool×St):Prop:=Q (.val (.bool r.1),⟨r.2,bx⟩)
def Ans{A:Ad}(Q:SV×aq (SY A)->Prop)(p:SV×aq (SY A)):Prop:=Q p∨∃u,iE p.1=some u∧Q (.val u,p.2)
theorem kx{A:Ad}(hA:A.Ok){bx:List Value}{b m:Int}{p:St×Int×Int}{Q:SV×aq (SY A)->Prop}(hI:uB b p)(h:aaQ bx Q (dG b m (bZ A.O b p))):(o8 A bx b m p).aD (Ans Q):=by
 refine⟨VJ A hA,hI,?_⟩
 unfold CJ
 generalize bZ A.O b p=r at*
 obtain⟨st,x,_|y⟩:=r
 ·have sur:¬x>m->(CJ A bx (st,x,none)).aD (Ans Q):=fun hm=>by
   have h1:(55296<=x∧x<57344)->Q (.val (.bool false),⟨error jX st,bx⟩):=fun hs=>by
    have h2:dG b m (st,x,none)=(false,error jX st):=by
     show(if x>m∧b=8 then _ else if x>m∨(55296<=x∧x<57344)then _ else _)=_
     rw[if_neg (fun h=>hm h.1),if_pos (.inr hs)]
    rw[h2]at h;exact h
   have h3:¬(55296<=x∧x<57344)->Q (.val (.bool true),⟨st,bx⟩):=fun hs=>by
    have h2:dG b m (st,x,none)=(true,st):=by
     show(if x>m∧b=8 then _ else if x>m∨(55296<=x∧x<57344)then _ else _)=_
     rw[if_neg (fun h=>hm h.1),if_neg (fun h=>h.elim hm hs)]
    rw[h2]at h;exact h
   exact⟨fun h4=>⟨fun h5=> .inr ⟨_,rfl,h1 ⟨of_decide_eq_true h4,of_decide_eq_true h5⟩⟩,fun h5=> .inr ⟨_,rfl,h3 (fun h=>of_decide_eq_false h5 h.2)⟩⟩,fun h4=> .inr ⟨_,rfl,h3 (fun h=>of_decide_eq_false h4 h.1)⟩⟩
  refine⟨fun h=>(by cases h),fun _=>⟨fun h1=>⟨fun h2=> .inr ⟨_,rfl,?_⟩,fun h2=>⟨fun _=> .inr ⟨_,rfl,?_⟩,fun h3=> ?_⟩⟩,fun h1=>⟨fun h2=> ?_,fun _=>sur (of_decide_eq_false h1)⟩⟩⟩
  ·have h3:dG b m (st,x,none)=(false,error CI st):=by
    show(if x>m∧b=8 then _ else if x>m∨(55296<=x∧x<57344)then _ else _)=_
    rw[if_pos ⟨of_decide_eq_true h1,by simpa using h2⟩]
   rw[h3]at h;exact h
  ·have h3:dG b m (st,x,none)=(false,error jX st):=by
    show(if x>m∧b=8 then _ else if x>m∨(55296<=x∧x<57344)then _ else _)=_
    rw[if_neg (fun h=>by simp[h.2]at h2),if_pos (.inl (of_decide_eq_true h1))]
   rw[h3]at h;exact h
  ·exact absurd (of_decide_eq_true h1) (of_decide_eq_false h3)
  ·exact absurd (of_decide_eq_true h2) (of_decide_eq_false h1)
 ·exact⟨fun _=> .inl h,fun h=>by cases h⟩
def Zj(A:Ad)(args:List SV)(c:aq (SY A)):af (SV×aq (SY A)):=
 match args with
 |[.st 0,.val (.int .i32 q)]=> .ae (.val (.bool (bt A.O q c.st).1),⟨(bt A.O q c.st).2,c.bx⟩)
 |_=> .fail
def Zk(A:Ad):ej (SY A):=⟨99,#[],true,Zj A⟩
theorem QC(A:Ad)(hA:A.Ok):(Zk A).Ok:=by
 refine nR hA Tryz.func99 (fun args w=>by kernel_rfl) (C:=aeg A) (bw A hA (lg A hA) Tryz.f99.ntmps [(1,cx (inE A) (QB A))] 0) (fun args c Q h=> ?_)
 unfold Zj at h
 split at h
 ·rename_i q
  obtain⟨st,bx⟩:=c
  refine bB (M5 A st bx q) ?_
  have h':aaQ bx Q (bt A.O q st):=h
  unfold bt at h'
  refine yd _ (fun h1=> ?_) (fun h1=>yd _ (fun h2=> ?_) (fun h2=>⟨fun h3=> ?_,fun h3=>⟨fun h4=> ?_,fun h4=>⟨fun h5=> ?_,fun h5=>⟨fun h6=> ?_,fun h6=> ?_⟩⟩⟩⟩))
  ·rw[if_pos h1]at h';exact .inr ⟨_,rfl,h'⟩
  all_goals rw[if_neg (by rw[h1];exact fun h=>by cases h)]at h'
  ·rw[if_pos h2]at h';exact kx hA ⟨.inl rfl,by show(3:Int)<=8;decide⟩ h'
  all_goals rw[if_neg (by rw[h2];exact fun h=>by cases h)]at h'
  ·rw[if_pos (by simpa using h3)]at h';exact kx hA ⟨.inr rfl,by show(2:Int)<=8;decide⟩ h'
  all_goals rw[if_neg (by simpa using h3)]at h'
  ·rw[if_pos (by simpa using h4)]at h';exact kx hA ⟨.inr rfl,by show(4:Int)<=8;decide⟩ h'
  all_goals rw[if_neg (by simpa using h4)]at h'
  ·rw[if_pos (by simpa using h5)]at h';exact kx hA ⟨.inr rfl,by show(8:Int)<=8;decide⟩ h'
  all_goals rw[if_neg (by simpa using h5)]at h'
  ·rw[if_pos (of_decide_eq_true h6)]at h';exact .inr ⟨_,rfl,h'⟩
  ·rw[if_neg (of_decide_eq_false h6)]at h';exact .inr ⟨_,rfl,h'⟩
 ·exact h.elim
def o9(A:Ad):List (Nat×ej (SY A)):=(99,Zk A)::(102,aef A)::(100,AR A)::AQ A
theorem fy(A:Ad)(hA:A.Ok):bI A (o9 A):=by
 refine bI.cons ?_ (QC A hA) rfl rfl (fun h=>by cases h)
 refine bI.cons ?_ (VI A hA) rfl rfl (fun h=>by cases h)
 refine bI.cons ?_ (CD A hA) rfl rfl (fun h=>by cases h)
 exact lg A hA
abbrev OW(A:Ad)(N:Nat):eS (SY A):=iM A (o9 A) N [] 0
theorem QD(s:U)(i:Nat):(Utf8.decode s i).1<=1114111:=by
 have hb:∀k,(s.get! (i+k)).toNat<256:=fun k=>(s.get! (i+k)).toNat_lt
 unfold Utf8.decode
 have h0:=hb 0;have h1:=hb 1;have h2:=hb 2;have h3:=hb 3
 simp only
 repeat' split
 all_goals first
  |(simp[Utf8.runeError];done)
  |(simp only;omega)
  |(rename_i hv;simp only[Utf8.valid,Nat.add_zero,Bool.and_eq_true,decide_eq_true_eq,Bool.not_eq_true']at hv⊢;omega)
  |(rename_i hv;simp[Utf8.valid]at hv;simp only[Nat.add_zero];omega)
theorem lW(s:U)(i:Nat)(h:¬(s.get! i).toNat<128):128<=(Utf8.decode s i).1:=by
 have h0:¬(s.get! (i+0)).toNat<128:=h
 unfold Utf8.decode
 simp only[h0]
 repeat' split
 all_goals first
  |(simp[Utf8.runeError];done)
  |contradiction
  |(rename_i hv;simp only[Utf8.valid,Nat.add_zero,Bool.and_eq_true,decide_eq_true_eq,Bool.not_eq_true']at hv⊢;omega)
  |(rename_i hv;simp[Utf8.valid]at hv;simp only[Nat.add_zero];omega)
theorem AT(O:U)(line:Int):∀(f:Nat) (ao:Bool) (p:Nat) (aM:Int) (ns:List e_),-1<=(ak O line f ao p aM ns).ch∧(ak O line f ao p aM ns).ch<=1114111
 |0,_,_,_,_=>by simp[ak]
 |f+1,ao,p,aM,ns=>by
  have:=QD O p
  have:=(O.get! p).toNat_lt
  simp only[ak]
  repeat' split
  all_goals first
   |exact AT O line f _ _ _ _
   |(constructor<;>simp only<;>omega)
theorem AU(O:U)(st:St): -1<=(aa O st).ch∧(aa O st).ch<=1114111:=AT _ _ _ _ _ _ _
theorem jy(O:U)(line:Int):∀(f:Nat) (ao:Bool) (p:Nat) (aM:Int) (ns:List e_),p<=O.size->p+(ak O line f ao p aM ns).bD<=(ak O line f ao p aM ns).p∧(ak O line f ao p aM ns).p<=O.size∧((ak O line f ao p aM ns).ch≠ -1->1<=(ak O line f ao p aM ns).bD)∧((ak O line f ao p aM ns).ch<128->(ak O line f ao p aM ns).bD<=1)
 |0,_,p,aM,_,h=>⟨by simp[ak],by simp[ak,h],by simp[ak],by simp[ak]⟩
 |f+1,ao,p,aM,ns,h=>by
  have step:∀(w:Nat) (b:Bool) (c:Int) (ns:List e_),p+w<=O.size->p+(ak O line f b (p+w) c ns).bD<=(ak O line f b (p+w) c ns).p∧(ak O line f b (p+w) c ns).p<=O.size∧((ak O line f b (p+w) c ns).ch≠ -1->1<=(ak O line f b (p+w) c ns).bD)∧((ak O line f b (p+w) c ns).ch<128->(ak O line f b (p+w) c ns).bD<=1):=fun w b c ns hw=>by
   obtain⟨h1,h2,h4,h5⟩:=jy O line f b (p+w) c ns hw
   exact⟨by omega,h2,h4,h5⟩
  by_cases hp:p<O.size
  ·have d1:=gz O p
   have d2:=km O p hp
   simp only[ak,if_pos hp]
   split
   ·split
    ·exact step 1 false _ _ (by omega)
    ·exact⟨by simp,by simp only;omega,fun _=>by simp,fun _=>by simp⟩
   ·rename_i hb
    have d3:=lW O p hb
    split
    ·exact step 1 false _ _ (by omega)
    ·split
     ·exact step _ false _ _ d2
     ·exact⟨by simp,d2,fun _=>d1.1,fun h=>absurd h (by simp only;omega)⟩
  ·simp only[ak,if_neg hp]
   exact⟨by simp,h,by simp,by simp⟩
theorem lX(O:U)(line:Int):∀(f:Nat) (ao:Bool) (p:Nat) (aM:Int) (ns:List e_),0<=(ak O line f ao p aM ns).ch->(ak O line f ao p aM ns).ch<128->((O.get! ((ak O line f ao p aM ns).p-1)).toNat:Int)=(ak O line f ao p aM ns).ch
 |0,_,p,aM,_=>by simp[ak]
 |f+1,ao,p,aM,ns=>by
  simp only[ak]
  by_cases hp:p<O.size
  ·simp only[if_pos hp]
   split
   ·split
    ·exact lX O line f _ _ _ _
    ·intro _ _;rfl
   ·rename_i hb
    have d3:=lW O p hb
    split
    ·exact lX O line f _ _ _ _
    ·split
     ·exact lX O line f _ _ _ _
     ·intro _ h;exfalso;simp only at h;omega
  ·simp only[if_neg hp]
   intro h;exact absurd h (by simp)
structure Pos(O:U)(st:St):Prop where
 w:st.bD<=st.p
 n:st.p<=O.size
 pos:st.ch≠ -1->1<=st.bD
 lo: -1<=st.ch
 hi:st.ch<=1114111
 QE:st.ch<128->st.bD<=1
 byte:0<=st.ch->st.ch<128->((O.get! (st.p-1)).toNat:Int)=st.ch
theorem Pos.same{O:U}{st aO:St}(h:Pos O st)(e1:aO.p=st.p)(e2:aO.bD=st.bD)(e3:aO.ch=st.ch):Pos O aO:=
 ⟨by rw[e1,e2];exact h.w,by rw[e1];exact h.n,by rw[e2,e3];exact h.pos,by rw[e3];exact h.lo,by rw[e3];exact h.hi,by rw[e2,e3];exact h.QE,by rw[e1,e3];exact h.byte⟩
theorem dJ{O:U}{st:St}(h:st.p<=O.size):Pos O (aa O st)∧st.p<=(aa O st).p-(aa O st).bD:=by
 have:=jy O (aB st) (O.size+1) st.ao st.p (aS st) st.ab h
 have h2:=AU O st
 have e1:(aa O st).p=(ak O (aB st) (O.size+1) st.ao st.p (aS st) st.ab).p:=rfl
 have e2:(aa O st).bD=(ak O (aB st) (O.size+1) st.ao st.p (aS st) st.ab).bD:=rfl
 have e3:(aa O st).ch=(ak O (aB st) (O.size+1) st.ao st.p (aS st) st.ab).ch:=rfl
 rw[←e1,←e2,←e3]at this
 exact⟨⟨by omega,this.2.1,this.2.2.1,h2.1,h2.2,this.2.2.2,lX _ _ _ _ _ _ _⟩,by omega⟩
structure Kp(st:St):Prop where
 l0:0<=st.aC
 c0:0<=st.aL
 c:st.aL+st.bD<=st.p
 l:st.aC+2*st.bD<=2*st.p
def Lx(a b:St):Prop:=a.aC<b.aC∨(a.aC=b.aC∧a.aL<=b.aL)
theorem Lx.refl(a:St):Lx a a:= .inr ⟨rfl,Int.le_refl _⟩
theorem Lx.trans{a b c:St}(h:Lx a b)(h':Lx b c):Lx a c:=by unfold Lx at*;omega
theorem mV(O:U)(line:Int)(hs:O.size<=2048):∀(f:Nat) (ao:Bool) (p:Nat) (aM:Int) (ns:List e_),p<=O.size->0<=aM->aM<=p->aM<=(ak O line f ao p aM ns).aM∧(ak O line f ao p aM ns).aM+(ak O line f ao p aM ns).bD<=(ak O line f ao p aM ns).p
 |0,_,p,aM,_,h,h0,h1=>⟨Int.le_refl _,by show aM+((0:Nat):Int)<=(p:Int);omega⟩
 |f+1,ao,p,aM,ns,h,h0,h1=>by
  have step:∀(w:Nat) (b:Bool) (ns:List e_),p+w<=O.size->aM<=(ak O line f b (p+w) (u64 (aM+w)) ns).aM∧(ak O line f b (p+w) (u64 (aM+w)) ns).aM+(ak O line f b (p+w) (u64 (aM+w)) ns).bD<=(ak O line f b (p+w) (u64 (aM+w)) ns).p:=fun w b ns hw=>by
   have e:u64 (aM+w)=aM+w:=b_ (by omega) (by omega)
   rw[e]
   obtain⟨h1,h2⟩:=mV O line hs f b (p+w) (aM+w) ns hw (by omega) (by omega)
   exact⟨by omega,h2⟩
  by_cases hp:p<O.size
  ·have d2:=km O p hp
   simp only[ak,if_pos hp]
   split
   ·split
    ·exact step 1 false _ (by omega)
    ·exact⟨Int.le_refl _,by show aM+((1:Nat):Int)<=((p+1:Nat):Int);omega⟩
   ·split
    ·exact step 1 false _ (by omega)
    ·split
     ·exact step _ false _ d2
     ·exact⟨Int.le_refl _,by show aM+((Utf8.decode O p).2:Int)<=((p+(Utf8.decode O p).2:Nat):Int);omega⟩
  ·simp only[ak,if_neg hp]
   exact⟨Int.le_refl _,by show aM+((0:Nat):Int)<=(p:Int);omega⟩
theorem kH{O:U}{st:St}(hs:O.size<=2048)(hn:st.p<=O.size)(gI:st.ch=10->1<=st.bD)(hk:Kp st):Kp (aa O st)∧Lx st (aa O st):=by
 have k1:=hk.l0;have k2:=hk.c0;have k3:=hk.c;have k4:=hk.l
 have el:(aa O st).aC=aB st:=rfl
 have ec:(aa O st).aL=(ak O (aB st) (O.size+1) st.ao st.p (aS st) st.ab).aM:=rfl
 have e1:(aa O st).p=(ak O (aB st) (O.size+1) st.ao st.p (aS st) st.ab).p:=rfl
 have e2:(aa O st).bD=(ak O (aB st) (O.size+1) st.ao st.p (aS st) st.ab).bD:=rfl
 have hp:=(jy O (aB st) (O.size+1) st.ao st.p (aS st) st.ab hn).1
 rw[←e1,←e2]at hp
 by_cases hc:st.ch=10
 ·have h1:=gI hc
  have cl:aB st=st.aC+1:=by unfold aB;rw[if_pos hc];exact b_ (by omega) (by omega)
  have cc:aS st=0:=by unfold aS;rw[if_pos hc]
  have hr:=mV O (aB st) hs (O.size+1) st.ao st.p (aS st) st.ab hn (by rw[cc];exact Int.le_refl _) (by rw[cc];omega)
  rw[←ec,←e1,←e2]at hr
  rw[cc]at hr
  rw[cl]at el
  exact⟨⟨by omega,by omega,hr.2,by omega⟩,.inl (by omega)⟩
 ·have cl:aB st=st.aC:=by unfold aB;rw[if_neg hc]
  have cc:aS st=st.aL+st.bD:=by unfold aS;rw[if_neg hc];exact b_ (by omega) (by omega)
  have hr:=mV O (aB st) hs (O.size+1) st.ao st.p (aS st) st.ab hn (by rw[cc];omega) (by rw[cc];omega)
  rw[←ec,←e1,←e2]at hr
  rw[cc]at hr
  rw[cl]at el
  exact⟨⟨by omega,by omega,hr.2,by omega⟩,.inr ⟨el.symm,by omega⟩⟩
def Fk(O:U)(st aO:St):Prop:=Pos O st->O.size<=2048->Kp st->Kp aO∧Lx st aO
theorem Kp.same{a b:St}(h:Kp a)(e1:b.aC=a.aC)(e2:b.aL=a.aL)(e3:b.p=a.p)(e4:b.bD=a.bD):Kp b:=⟨by rw[e1];exact h.l0,by rw[e2];exact h.c0,by rw[e2,e3,e4];exact h.c,by rw[e1,e3,e4];exact h.l⟩
theorem CK{O:U}{a b:St}(e1:b.aC=a.aC)(e2:b.aL=a.aL)(e3:b.p=a.p)(e4:b.bD=a.bD):Fk O a b:=fun _ _ h=>⟨h.same e1 e2 e3 e4,.inr ⟨e1.symm,by rw[e2];exact Int.le_refl _⟩⟩
structure aeh(a b:St):Prop where
 ao:b.ao=a.ao
 p:b.p=a.p
 bD:b.bD=a.bD
 ch:b.ch=a.ch
 aC:b.aC=a.aC
 aL:b.aL=a.aL
 ab:∃l,b.ab=a.ab++l
structure Clo(O:U)(P:St->Prop):Prop where
 next:∀s,s.p<=O.size->Kp s->P s->P (aa O s)
 same:∀a b,aeh a b->P a->P b
structure On(O:U)(st aO:St):Prop where
 bm:aO={st with ao:=aO.ao,p:=aO.p,bD:=aO.bD,aC:=aO.aC,aL:=aO.aL,ch:=aO.ch,ab:=aO.ab}
 ab:∃l,aO.ab=st.ab++l
 left:left O aO<=left O st
 pos:Pos O st->Pos O aO∧st.p-st.bD<=aO.p-aO.bD
 kp:Fk O st aO
 ind:Pos O st->O.size<=2048->Kp st->∀P,Clo O P->P st->P aO
theorem On.refl(O:U)(st:St):On O st st:=⟨rfl,⟨[],by simp⟩,Nat.le_refl _,fun h=>⟨h,Nat.le_refl _⟩,CK rfl rfl rfl rfl,fun _ _ _ _ _ h=>h⟩
theorem On.trans{O:U}{a b c:St}(h:On O a b)(h':On O b c):On O a c:=by
 obtain⟨l,hl⟩:=h.ab
 obtain⟨l',VL⟩:=h'.ab
 refine⟨?_,⟨l++l',by rw[VL,hl,List.append_assoc]⟩,Nat.le_trans h'.left h.left,fun hp=>⟨(h'.pos (h.pos hp).1).1,Nat.le_trans (h.pos hp).2 (h'.pos (h.pos hp).1).2⟩,fun hp hs hk=>⟨(h'.kp (h.pos hp).1 hs (h.kp hp hs hk).1).1,(h.kp hp hs hk).2.trans (h'.kp (h.pos hp).1 hs (h.kp hp hs hk).1).2⟩,fun hp hs hk P hP h0=>h'.ind (h.pos hp).1 hs (h.kp hp hs hk).1 P hP (h.ind hp hs hk P hP h0)⟩
 have h1:=h.bm
 have h2:=h'.bm
 rw[h2,h1]
theorem aR(O:U)(st:St):On O st (aa O st):=⟨rfl,nM O st,gB O st,fun h=>⟨(dJ h.n).1,by have:=(dJ (O:=O) (st:=st) h.n).2;omega⟩,fun h hs hk=>kH hs h.n (fun e=>h.pos (by rw[e];decide)) hk,fun h _ hk P hP h0=>hP.next _ h.n hk h0⟩
theorem sJ(O:U)(l c:Int)(m:U)(st:St):On O st (iG l c m st):=⟨rfl,⟨[_],rfl⟩,Nat.le_refl _,fun h=>⟨h.same rfl rfl rfl,Nat.le_refl _⟩,CK rfl rfl rfl rfl,fun _ _ _ P hP h0=>hP.same st _ ⟨rfl,rfl,rfl,rfl,rfl,rfl,[_],rfl⟩ h0⟩
theorem fN(O:U)(m:U)(st:St):On O st (error m st):=sJ O _ _ m st
theorem iu(O:U)(o:Int)(m:U)(st:St):On O st (bF o m st):=sJ O _ _ m st
theorem On.b{O:U}{a b:St}(h:On O a b):b.b=a.b:=by rw[h.bm]
theorem On.len{O:U}{a b:St}(h:On O a b):a.ab.length<=b.ab.length:=by
 obtain⟨l,hl⟩:=h.ab
 rw[hl,List.length_append];omega
theorem dq(O:U)(c:Int->Bool)(st:St):On O st (skip O c st):=sE O c (P:=fun s=>On O st s) (fun s h _=>h.trans (aR O s)) st (On.refl O st)
theorem sK(O:U)(b:Int)(p:St×Int×Int)(hI:uB b p):On O p.1 (bZ O b p).1:=by
 unfold bZ
 refine cp (body:=CH O b) (μ:=It) (fun a=>uB b a∧On O p.1 a.1) (P:=fun(q:St×Int×Option Bool)=>On O p.1 q.1) (fun a ha=> ?_) p ⟨hI,On.refl _ _⟩
 have on:=wM O b a ha.1
 refine⟨fun h1=>⟨fun _=>ha.2,fun h2=>⟨fun h3=>⟨(((on.1 h1).2 h2).1 h3).1,ha.2.trans (fN _ _ _)⟩,fun h3=> ?_⟩⟩,fun _=>ha.2⟩
 have:=((on.1 h1).2 h2).2 h3
 exact⟨⟨this.1,ha.2.trans (aR _ _)⟩,this.2⟩
theorem nS(O:U)(b m:Int)(st:St)(r:St×Int×Option Bool)(h:On O st r.1):On O st (dG b m r).2:=by
 unfold dG
 split
 ·exact h
 ·split
  ·exact h.trans (fN _ _ _)
  ·split
   ·exact h.trans (fN _ _ _)
   ·exact h
theorem nT(O:U)(q:Int)(st:St):On O st (bt O q st).2:=by
 unfold bt
 split
 ·exact aR _ _
 ·split
  ·exact nS O _ _ _ _ (sK O 8 (st,0,3) ⟨.inl rfl,by show(3:Int)<=8;decide⟩)
  ·split
   ·exact nS O _ _ _ _ ((aR O st).trans (sK O 16 (aa O st,0,2) ⟨.inr rfl,by show(2:Int)<=8;decide⟩))
   ·split
    ·exact nS O _ _ _ _ ((aR O st).trans (sK O 16 (aa O st,0,4) ⟨.inr rfl,by show(4:Int)<=8;decide⟩))
    ·split
     ·exact nS O _ _ _ _ ((aR O st).trans (sK O 16 (aa O st,0,8) ⟨.inr rfl,by show(8:Int)<=8;decide⟩))
     ·split
      ·exact On.refl _ _
      ·exact fN _ _ _
def CL:U:=ByteArray.mk #[115,116,114,105,110,103,32,110,111,116,32,116,101,114,109,105,110,97,116,101,100]
def yg:U:=ByteArray.mk #[110,101,119,108,105,110,101,32,105,110,32,115,116,114,105,110,103]
def Iw(O:U)(p:St×Bool):af (Step (St×Bool) (St×Bool)):=
 (.aj (p.1.ch==96)
   (.ae (Step.out (aa O p.1,p.2)))
   (.aj (decide (p.1.ch<0))
     (.ae (Step.out (bF 0 CL p.1,false)))
     (.ae (Step.go (aa O p.1,p.2)))))
def Ix(O:U)(p:St×Bool):af (Step (St×Bool) (St×Bool)):=
 (.aj (p.1.ch==34)
   (.ae (Step.out (aa O p.1,p.2)))
   (.aj (p.1.ch==92)
     (.aj (!(bt O 34 (aa O p.1)).fst)
       (.ae (Step.go ((bt O 34 (aa O p.1)).snd,false)))
       (.ae (Step.go ((bt O 34 (aa O p.1)).snd,p.2))))
     (.aj (p.1.ch==10)
       (.ae (Step.out (error yg p.1,false)))
       (.aj (decide (p.1.ch<0))
         (.ae (Step.out (bF 0 CL p.1,false)))
         (.ae (Step.go (aa O p.1,p.2)))))))
def uC(A:Ad)(bx:List Value)(p:St×Bool):E (SY A):=atB A 2 (p.1,bx,p.2)
def Zl(A:Ad)(bx:List Value)(p:St×Bool):Ex×E (SY A):=(.exit 0,uC A bx p)
abbrev Kn:Code:=a_ (aX (av Tryz.f68) 0)
abbrev Ko:Code:=a_ (aX (av Tryz.f67) 0)
theorem aaR(A:Ad)(bx:List Value)(p:St×Bool):(az (OW A Tryz.f68.ntmps) Kn (uC A bx p)).bind (fun xe=> .ae (xe.1,cU [0,2] xe.2))=
 (Iw A.O p).bind fun s=> .ae (jW (uC A bx) (Zl A bx) s):=by kernel_rfl
theorem aaS(A:Ad)(bx:List Value)(p:St×Bool):(az (OW A Tryz.f67.ntmps) Ko (uC A bx p)).bind (fun xe=> .ae (xe.1,cU [0,2] xe.2))=
 (Ix A.O p).bind fun s=> .ae (jW (uC A bx) (Zl A bx) s):=by kernel_rfl
def Ab(O:U)(p:St×Bool):Nat:=left O p.1
theorem Iy(O:U)(p:St×Bool):(Iw O p).cg:=⟨trivial,trivial,trivial⟩
theorem Iz(O:U)(p:St×Bool):(Ix O p).cg:=⟨trivial,⟨trivial,trivial⟩,trivial,trivial,trivial⟩
theorem uD{x:Int}(h:decide (x<0)=false):¬x= -1:=fun e=>by rw[e]at h;cases h
theorem wN(O:U)(p:St×Bool):(Iw O p).aD fun s=>match s with
 | .go a'=>On O p.1 a'.1∧Ab O a'<Ab O p
 | .out q=>On O p.1 q.1:=by
 refine⟨fun _=>aR _ _,fun _=>⟨fun _=>iu _ _ _ _,fun h=>⟨aR _ _,aQ O p.1 (uD h)⟩⟩⟩
theorem vL{x k:Int}(hk:k≠ -1)(h:(x==k)=true):¬x= -1:=fun e=>by rw[e]at h;exact hk (by simpa using (eq_of_beq h).symm)
theorem sL(O:U)(p:St×Bool):(Ix O p).aD fun s=>match s with
 | .go a'=>On O p.1 a'.1∧Ab O a'<Ab O p
 | .out q=>On O p.1 q.1:=by
 have QF:(p.1.ch==92)=true->On O p.1 (bt O 34 (aa O p.1)).2∧left O (bt O 34 (aa O p.1)).2<left O p.1:=fun h=>by
  have h1:=aQ O p.1 (vL (by decide) h)
  have h2:=nT O 34 (aa O p.1)
  exact⟨(aR _ _).trans h2,Nat.lt_of_le_of_lt h2.left h1⟩
 refine⟨fun _=>aR _ _,fun _=>⟨fun h=>⟨fun _=>QF h,fun _=>QF h⟩,fun _=>⟨fun _=>fN _ _ _,fun _=>⟨fun _=>iu _ _ _ _,fun h=>⟨aR _ _,aQ O p.1 (uD h)⟩⟩⟩⟩⟩
def mW(O:U)(p:St×Bool):St×Bool:=cC (Iw O) (Ab O) (mw,false) p
def iV(O:U)(p:St×Bool):St×Bool:=cC (Ix O) (Ab O) (mw,false) p
theorem Kq{A:Ad}(hA:A.Ok){N:Nat}{b:Code}{body:St×Bool->af (Step (St×Bool) (St×Bool))}
 (Z2:∀bx p,(az (OW A N) b (uC A bx p)).bind (fun xe=> .ae (xe.1,cU [0,2] xe.2))=(body p).bind fun s=> .ae (jW (uC A bx) (Zl A bx) s))
 (hn:∀p,(body p).cg)(LP:∀p,(body p).aD fun s=>match s with
   | .go a'=>On A.O p.1 a'.1∧Ab A.O a'<Ab A.O p
   | .out q=>On A.O p.1 q.1):
 cy (SY A) N 0 (.loop b) (cx (inB A 2) (fun p=> .ae (.normal,uC A p.2.1 (cC body (Ab A.O) (mw,false) (p.1,p.2.2))))):=by
 have h1:=At.Iq (Y:=SY A) (id:=0) (F:=fun bx p=>uC A bx p) (G:=Zl A) (body:=body) (Ab A.O) (mw,false) (b:=b) (N:=N)
  (fun bx=>At.same (db A hA) (bw A hA (fy A hA) N [] 0) (fun _=>[0,2]) (fun p=>Z2 bx p)) (fun bx q=>by simp[Zl]) hn (fun p=>an (LP p) (fun s h=>by cases s with
    |go a'=>exact h.2
    |out q=>trivial))
 refine eW (F:=fun p:St×List Value×Bool=>uC A p.2.1 (p.1,p.2.2)) ?_ (aaJ 2 (by decide))
 exact⟨fun p=>h1.wp ((p.1,p.2.2),p.2.1),fun p=>h1.mono ((p.1,p.2.2),p.2.1)⟩
theorem ES{O:U}{body:St×Bool->af (Step (St×Bool) (St×Bool))}(LP:∀p,(body p).aD fun s=>match s with
 | .go a'=>On O p.1 a'.1∧Ab O a'<Ab O p
 | .out q=>On O p.1 q.1)(p:St×Bool):On O p.1 (cC body (Ab O) (mw,false) p).1:=by
 refine cp (body:=body) (μ:=Ab O) (fun a=>On O p.1 a.1) (P:=fun(q:St×Bool)=>On O p.1 q.1) (fun a ha=> ?_) p (On.refl _ _)
 refine an (LP a) (fun s h=> ?_)
 cases s with
 |go a'=>exact⟨ha.trans h.1,h.2⟩
 |out q=>exact ha.trans h
def fb(O:U)(st:St):St:=bJ O 4 (mW O (aa O st,true)).2 (mW O (aa O st,true)).1
def fc(O:U)(st:St):St:=bJ O 4 (iV O (aa O st,true)).2 (iV O (aa O st,true)).1
abbrev CM(A:Ad):E (SY A)->af (Ex×E (SY A)):=cx (inB A 2) (fun p=> .ae (.normal,uC A p.2.1 (cC (Iw A.O) (Ab A.O) (mw,false) (p.1,p.2.2))))
abbrev CN(A:Ad):E (SY A)->af (Ex×E (SY A)):=cx (inB A 2) (fun p=> .ae (.normal,uC A p.2.1 (cC (Ix A.O) (Ab A.O) (mw,false) (p.1,p.2.2))))
theorem CO(A:Ad)(st:St)(bx:List Value):eh (iM A (o9 A) Tryz.f68.ntmps [(0,CM A)] 0) Tryz.f68 [.st 0] ⟨st,bx⟩=
 (.aY (cy (SY A) Tryz.f68.ntmps 0 (.loop Kn) (CM A))
   (.aY ((mW A.O (aa A.O st,true)).fst.b.isSome=true) (.ae (unit,⟨fb A.O st,bx⟩)))):=by kernel_rfl
theorem CP(A:Ad)(st:St)(bx:List Value):eh (iM A (o9 A) Tryz.f67.ntmps [(0,CN A)] 0) Tryz.f67 [.st 0] ⟨st,bx⟩=
 (.aY (cy (SY A) Tryz.f67.ntmps 0 (.loop Ko) (CN A))
   (.aY ((iV A.O (aa A.O st,true)).fst.b.isSome=true) (.ae (unit,⟨fc A.O st,bx⟩)))):=by kernel_rfl
theorem QG(O:U)(st:St):On O st (mW O (aa O st,true)).1:=(aR _ _).trans (ES (wN O) (aa O st,true))
theorem QH(O:U)(st:St):On O st (iV O (aa O st,true)).1:=(aR _ _).trans (ES (sL O) (aa O st,true))
def aei(A:Ad):ej (SY A):=⟨68,#[],true,oX A (fun st=>st.b.isSome=true) (fb A.O)⟩
theorem VM(A:Ad)(hA:A.Ok):(aei A).Ok:=by
 refine nR hA Tryz.func68 (fun args w=>by kernel_rfl) (C:=iM A (o9 A) Tryz.f68.ntmps [(0,CM A)] 0) (bw A hA (fy A hA) Tryz.f68.ntmps [(0,CM A)] 0) (fun args c Q h=> ?_)
 unfold oX at h
 split at h
 ·obtain⟨st,bx⟩:=c
  exact bB (CO A st bx) ⟨Kq hA (aaR A) (Iy A.O) (wN A.O),by rw[(QG A.O st).b];exact h.1,.inl h.2⟩
 ·exact h.elim
def aej(A:Ad):ej (SY A):=⟨67,#[],true,oX A (fun st=>st.b.isSome=true) (fc A.O)⟩
theorem VN(A:Ad)(hA:A.Ok):(aej A).Ok:=by
 refine nR hA Tryz.func67 (fun args w=>by kernel_rfl) (C:=iM A (o9 A) Tryz.f67.ntmps [(0,CN A)] 0) (bw A hA (fy A hA) Tryz.f67.ntmps [(0,CN A)] 0) (fun args c Q h=> ?_)
 unfold oX at h
 split at h
 ·obtain⟨st,bx⟩:=c
  exact bB (CP A st bx) ⟨Kq hA (aaS A) (Iz A.O) (sL A.O),by rw[(QH A.O st).b];exact h.1,.inl h.2⟩
 ·exact h.elim
def o_:U:=ByteArray.mk #[101,109,112,116,121,32,114,117,110,101,32,108,105,116,101,114,97,108,32,111,114,32,117,110,101,115,99,97,112,101,100,32,39]
def pa:U:=ByteArray.mk #[109,111,114,101,32,116,104,97,110,32,111,110,101,32,99,104,97,114,97,99,116,101,114,32,105,110,32,114,117,110,101,32,108,105,116,101,114,97,108]
def vM:U:=ByteArray.mk #[110,101,119,108,105,110,101,32,105,110,32,114,117,110,101,32,108,105,116,101,114,97,108]
def yh:U:=ByteArray.mk #[114,117,110,101,32,108,105,116,101,114,97,108,32,110,111,116,32,116,101,114,109,105,110,97,116,101,100]
def sM(O:U)(p:St×Bool×Int):af (Step (St×Bool×Int) (St×Bool)):=
 (.aj (p.1.ch==39)
   (.aj (p.2.1)
     (.aj (p.2.2==0)
       (.ae (Step.out (aa O (error o_ p.1),false)))
       (.aj (p.2.2 != 1)
         (.ae (Step.out (aa O (bF 0 pa p.1),false)))
         (.ae (Step.out (aa O p.1,p.2.1)))))
     (.ae (Step.out (aa O p.1,p.2.1))))
   (.aj (p.1.ch==92)
     (.aj (!(bt O 39 (aa O p.1)).fst)
       (.ae (Step.go ((bt O 39 (aa O p.1)).snd,false,IntKind.i64.wrap (p.2.2+1))))
       (.ae (Step.go ((bt O 39 (aa O p.1)).snd,p.2.1,IntKind.i64.wrap (p.2.2+1)))))
     (.aj (p.1.ch==10)
       (.aj (p.2.1)
         (.ae (Step.out (error vM p.1,false)))
         (.ae (Step.out (p.1,p.2.1))))
       (.aj (decide (p.1.ch<0))
         (.aj (p.2.1)
           (.ae (Step.out (bF 0 yh p.1,false)))
           (.ae (Step.out (p.1,p.2.1))))
         (.ae (Step.go (aa O p.1,p.2.1,IntKind.i64.wrap (p.2.2+1))))))))
def CQ(A:Ad)(bx:List Value)(p:St×Bool×Int):E (SY A):=⟨⟨p.1,bx⟩,[(0,.st 0),(2,.val (.bool p.2.1)),(3,.val (.int .i64 p.2.2))]⟩
abbrev sN:Code:=a_ (aX (av Tryz.f69) 0)
def Zm:Ex->List Nat
 | .normal=>[0,2,3]
 |_=>[0,2]
theorem VO(A:Ad)(bx:List Value)(p:St×Bool×Int):(az (OW A Tryz.f69.ntmps) sN (CQ A bx p)).bind (fun xe=> .ae (xe.1,cU (Zm xe.1) xe.2))=
 (sM A.O p).bind fun s=> .ae (jW (CQ A bx) (Zl A bx) s):=by kernel_rfl
def yi(O:U)(p:St×Bool×Int):Nat:=left O p.1
theorem ET(O:U)(p:St×Bool×Int):(sM O p).cg:=⟨⟨⟨trivial,trivial,trivial⟩,trivial⟩,⟨trivial,trivial⟩,⟨trivial,trivial⟩,⟨trivial,trivial⟩,trivial⟩
theorem yj(O:U)(p:St×Bool×Int):(sM O p).aD fun s=>match s with
 | .go a'=>On O p.1 a'.1∧yi O a'<yi O p
 | .out q=>On O p.1 q.1:=by
 have QF:(p.1.ch==92)=true->On O p.1 (bt O 39 (aa O p.1)).2∧left O (bt O 39 (aa O p.1)).2<left O p.1:=fun h=>by
  have h1:=aQ O p.1 (vL (by decide) h)
  have h2:=nT O 39 (aa O p.1)
  exact⟨(aR _ _).trans h2,Nat.lt_of_le_of_lt h2.left h1⟩
 refine⟨fun _=>⟨fun _=>⟨fun _=>(fN _ _ _).trans (aR _ _),fun _=>⟨fun _=>(iu _ _ _ _).trans (aR _ _),fun _=>aR _ _⟩⟩,fun _=>aR _ _⟩,
  fun _=>⟨fun h=>⟨fun _=>QF h,fun _=>QF h⟩,fun _=>⟨fun _=>⟨fun _=>fN _ _ _,fun _=>On.refl _ _⟩,fun _=>⟨fun _=>⟨fun _=>iu _ _ _ _,fun _=>On.refl _ _⟩,fun h=>⟨aR _ _,aQ O p.1 (uD h)⟩⟩⟩⟩⟩
def dc(O:U)(p:St×Bool×Int):St×Bool:=cC (sM O) (yi O) (mw,false) p
def inR(A:Ad)(e:E (SY A)):Option ((St×Bool×Int)×List Value):=match Ev.look e.tm 0,Ev.look e.tm 2,Ev.look e.tm 3 with
 | .st 0,.tt,.val (.int .i64 n)=>some ((e.c.st,true,n),e.c.bx)
 |_,_,_=>none
theorem aaT{A:Ad}(e:E (SY A))(p:(St×Bool×Int)×List Value)(h:inR A e=some p):fF e (CQ A p.2 p.1):=by
 unfold inR at h
 split at h
 ·rename_i h0 h2 h3
  simp only[Option.some.injEq]at h
  subst h
  exact q9 rfl ⟨.inl h0,.inr ⟨_,by rw[h2];rfl,rfl⟩,.inl h3,trivial⟩
 ·cases h
abbrev sO(A:Ad):E (SY A)->af (Ex×E (SY A)):=cx (inR A) (fun p=> .ae (.normal,uC A p.2 (dc A.O p.1)))
theorem QJ(A:Ad)(hA:A.Ok):cy (SY A) Tryz.f69.ntmps 0 (.loop sN) (sO A):=by
 have h1:=At.Iq (Y:=SY A) (id:=0) (F:=fun bx p=>CQ A bx p) (G:=Zl A) (body:=sM A.O) (yi A.O) (mw,false) (b:=sN) (N:=Tryz.f69.ntmps)
  (fun bx=>At.same (db A hA) (bw A hA (fy A hA) Tryz.f69.ntmps [] 0) Zm (fun p=>VO A bx p)) (fun bx q=>by simp[Zl]) (ET A.O) (fun p=>an (yj A.O p) (fun s h=>by cases s with
    |go a'=>exact h.2
    |out q=>trivial))
 exact eW h1 aaT
theorem wO(O:U)(p:St×Bool×Int):On O p.1 (dc O p).1:=by
 unfold dc
 refine cp (body:=sM O) (μ:=yi O) (fun a=>On O p.1 a.1) (P:=fun(q:St×Bool)=>On O p.1 q.1) (fun a ha=> ?_) p (On.refl _ _)
 refine an (yj O a) (fun s h=> ?_)
 cases s with
 |go a'=>exact⟨ha.trans h.1,h.2⟩
 |out q=>exact ha.trans h
def yk(O:U)(st:St):St:=bJ O 3 (dc O (aa O st,true,0)).2 (dc O (aa O st,true,0)).1
theorem M6(A:Ad)(st:St)(bx:List Value):eh (iM A (o9 A) Tryz.f69.ntmps [(0,sO A)] 0) Tryz.f69 [.st 0] ⟨st,bx⟩=
 (.aY (cy (SY A) Tryz.f69.ntmps 0 (.loop sN) (sO A))
   (.aY ((dc A.O (aa A.O st,true,0)).fst.b.isSome=true) (.ae (unit,⟨yk A.O st,bx⟩)))):=by kernel_rfl
def aek(A:Ad):ej (SY A):=⟨69,#[],true,oX A (fun st=>st.b.isSome=true) (yk A.O)⟩
theorem VP(A:Ad)(hA:A.Ok):(aek A).Ok:=by
 refine nR hA Tryz.func69 (fun args w=>by kernel_rfl) (C:=iM A (o9 A) Tryz.f69.ntmps [(0,sO A)] 0) (bw A hA (fy A hA) Tryz.f69.ntmps [(0,sO A)] 0) (fun args c Q h=> ?_)
 unfold oX at h
 split at h
 ·obtain⟨st,bx⟩:=c
  exact bB (M6 A st bx) ⟨QJ A hA,by rw[((aR A.O st).trans (wO A.O (aa A.O st,true,0))).b];exact h.1,.inl h.2⟩
 ·exact h.elim
end
end Sc
end Go.Proofs.YtogkcphobhhbdaaGreatDoor
