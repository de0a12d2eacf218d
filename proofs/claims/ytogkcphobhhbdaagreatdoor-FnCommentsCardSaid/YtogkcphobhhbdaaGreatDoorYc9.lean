/- The scanner of the program told as plain functions, part 9: texts joined and shortened by a program (wip/tools/mini.py). -/
import Derived.Test.YtogkcphobhhbdaaGreatDoorYc8
import Derived.Shelf.LaysM
import Derived.Shelf.Strconv.Itoa4
set_option linter.unusedVariables false
set_option linter.unusedSimpArgs false
set_option maxHeartbeats 32000000
namespace Go.Proofs.YtogkcphobhhbdaaGreatDoor
open Go Go.RowKit Go.Lib
namespace Sc
open Ev
set_option maxRecDepth 100000
noncomputable section
theorem Rn{A:Ad}{nl:Bool}{l c:Int}{Q:Ex×E (SY A)->Prop}{st:St}(h:((A8 A.O (fun s=>Fin.done s []) (jM A.O nl) st).bind fun f=> .ae (td A nl f)).aD Q):
 (A8 A.O (fun s=>(Ex.ret,(⟨⟨s,[]⟩,[]⟩:E (SY A)))) (fun s=> .ae (.normal,wx A nl l c s)) st).aD fun xe=>match xe.1 with
   | .normal=>∃q:Bool×Int×Int×St,fF xe.2 (wx A q.1 q.2.1 q.2.2.1 q.2.2.2)∧((jM A.O q.1 q.2.2.2).bind fun f=> .ae (td A q.1 f)).aD Q
   |_=>Q xe:=by
 refine⟨fun h1=>h.1 h1,fun h1=>⟨fun h2=>⟨((h.2 h1).1 h2).1,fun h3=>(((h.2 h1).1 h2).2).1 h3,fun h3=>⟨(nl,l,c,_),fF.refl _,(((h.2 h1).1 h2).2).2 h3⟩⟩,fun h2=>⟨(nl,l,c,_),fF.refl _,(h.2 h1).2 h2⟩⟩⟩
theorem aeN(A:Ad)(hA:A.Ok):At (SY A) A5 (ah 8 (gr 0)) (fun q:Bool×Int×Int×St=>wx A q.1 q.2.1 q.2.2.1 q.2.2.2) (fun q=>(jM A.O q.1 q.2.2.2).bind fun f=> .ae (td A q.1 f)):=
 At.same (db A hA) (C:=Nr A) (bw A hA (lq A hA) A5 [] 0) vR (fun q=>aeK A q.1 q.2.1 q.2.2.1 q.2.2.2)
theorem aeO:ah 4 (ah 4 (gr 0))=ah 8 (gr 0):=by kernel_rfl
theorem tail_at(A:Ad)(hA:A.Ok):At (SY A) A5 (ah 4 (gr 0)) (fun q:Bool×Int×Int×St=>wx A q.1 q.2.1 q.2.2.1 q.2.2.2) (fun q=>(yJ A.O q.1 q.2.1 q.2.2.1 q.2.2.2).bind fun f=> .ae (td A q.1 f)):=by
 refine At.IV (db A hA) (C:=Nr A) (bw A hA (lq A hA) A5 [] 0) 4 (by kernel_rfl) (F':=fun q:Bool×Int×Int×St=>wx A q.1 q.2.1 q.2.2.1 q.2.2.2) (gb:=fun q=>(jM A.O q.1 q.2.2.2).bind fun f=> .ae (td A q.1 f)) (by rw[aeO];exact aeN A hA) vR (fun q Q hs=> ?_)
 obtain⟨nl,l,c,st⟩:=q
 refine bB (aeL A nl l c st) ⟨fun h=>Rn ?_,fun h=>Rn ?_⟩
 ·have hs:((yJ A.O nl l c st).bind fun f=> .ae (td A nl f)).aD Q:=hs
  unfold yJ at hs
  rw[h,Bool.true_or]at hs
  exact hs
 ·have hs:((yJ A.O nl l c st).bind fun f=> .ae (td A nl f)).aD Q:=hs
  unfold yJ at hs
  rw[h,Bool.false_or]at hs
  exact hs
theorem ahF:ah 3 (gr 0)= .seq (.block 0 (.loop C2)) (ah 4 (gr 0)):=by kernel_rfl
theorem KH(A:Ad)(hA:A.Ok):At (SY A) A5 (ah 3 (gr 0)) (fun q:Bool×Int×Int×St=>wx A q.1 q.2.1 q.2.2.1 q.2.2.2) (fun q=>(yJ A.O q.1 q.2.1 q.2.2.1 (skip A.O (aI q.1) q.2.2.2)).bind fun f=> .ae (td A q.1 f)):=by
 rw[ahF]
 have h1:=At.par (F:=fun(nl:Bool) (p:St×List Value×Int×Int)=>Es A p.1 p.2.1 [(0,.st 0),(2,.val (.bool nl)),(3,.val (.int .u64 p.2.2.1)),(4,.val (.int .u64 p.2.2.2))]) (Re A hA)
 have h2:At (SY A) A5 (.block 0 (.loop C2)) (fun q:Bool×Int×Int×St=>wx A q.1 q.2.1 q.2.2.1 q.2.2.2) (fun q=> .ae (.normal,wx A q.1 q.2.1 q.2.2.1 (skip A.O (aI q.1) q.2.2.2))):=
  ⟨fun q=>h1.wp ((q.2.2.2,[],q.2.1,q.2.2.1),q.1),fun q=>h1.mono ((q.2.2.2,[],q.2.1,q.2.2.1),q.1)⟩
 exact At.seq h2 (tail_at A hA) (fun q Q hs=>⟨(q.1,q.2.1,q.2.2.1,skip A.O (aI q.1) q.2.2.2),fF.refl _,hs⟩)
def nx0(A:Ad)(nl:Bool)(st:St):E (SY A):=⟨⟨st,[]⟩,[(0,.st 0),(2,.val (.bool nl))]⟩
theorem Wz(A:Ad)(nl:Bool)(st:St):(az (Nr A) (ck 3 (gr 0)) (nx0 A nl st)).bind (fun xe=> .ae (xe.1,cU (vR xe.1) xe.2))=
 .ae (.normal,⟨⟨stop st,[]⟩,[(0,.st 0),(2,.val (.bool nl)),(3,.val #[Value.int IntKind.u64 (u64 (1+st.aC)),Value.int IntKind.u64 (u64 (1+st.aL))][0]),(4,.val #[Value.int IntKind.u64 (u64 (1+st.aC)),Value.int IntKind.u64 (u64 (1+st.aL))][1])]⟩):=by kernel_rfl
theorem C4(A:Ad)(hA:A.Ok):At (SY A) A5 (gr 0) (fun q:Bool×St=>nx0 A q.1 q.2) (fun q=>(iY A.O q.1 q.2).bind fun f=> .ae (td A q.1 f)):=by
 refine At.IV (db A hA) (C:=Nr A) (bw A hA (lq A hA) A5 [] 0) 3 (by kernel_rfl) (KH A hA) vR (fun q Q hs=> ?_)
 exact bB (Wz A q.1 q.2) ⟨(q.1,u64 (1+q.2.aC),u64 (1+q.2.aL),stop q.2),fF.refl _,hs⟩
def WA(A:Ad)(st:St):af (Ex×E (SY A)):= .aj (st.ch==61) (.ae (.ret,⟨⟨tk 5 (aa A.O st),[]⟩,[]⟩)) (.ae (.normal,⟨⟨tk 4 st,[]⟩,[]⟩))
theorem abe(A:Ad)(st:St):(az (Nr A) (gr 1) ⟨⟨st,[]⟩,[(0,.st 0)]⟩).bind (fun xe=> .ae (xe.1,cU [] xe.2))=WA A st:=by kernel_rfl
theorem C5(A:Ad)(hA:A.Ok):At (SY A) A5 (gr 1) (fun st=>kG A (st,[])) (WA A):=
 At.same (db A hA) (C:=Nr A) (bw A hA (lq A hA) A5 [] 0) (fun _=>[]) (abe A)
def lP(O:U)(st:St):St:=if st.ch=61 then tk 5 (aa O st)else tk 4 st
def ahG(O:U):Fin->Step St (St×List Value)
 | .done s bx=> .out (s,bx)
 | .fP s=> .go s
 | .zN s=> .out (lP O s,[])
def kv(O:U)(nl:Bool)(st:St):af (Step St (St×List Value)):=(iY O nl st).bind fun f=> .ae (ahG O f)
def aK(O:U)(st:St):St×List Value:=cC (kv O st.au) (left O) (mw,[]) {st with au:=false}
def abf(A:Ad)(l:Nat)(p:Nat×Bool×St):E (SY A):=match l with
 |0=>nx0 A p.2.1 p.2.2
 |_=>kG A (p.2.2,[])
def ahH(A:Ad)(l:Nat)(p:Nat×Bool×St):af (Ex×E (SY A)):=match l with
 |0=>(iY A.O p.2.1 p.2.2).bind fun f=> .ae (td A p.2.1 f)
 |1=>WA A p.2.2
 |_=> .fail
def Ro(A:Ad)(o:St×List Value):af (Ex×E (SY A)):= .any (.ae (.ret,⟨⟨o.1,o.2⟩,[]⟩)) (.ae (.normal,⟨⟨o.1,o.2⟩,[]⟩))
def Zw(A:Ad)(l:Nat)(p:Nat×Bool×St):af (Ex×E (SY A)):=match l with
 |0=>(Ev.runT (kv A.O p.2.1) p.1 p.2.2).bind (Ro A)
 |1=>Ro A (lP A.O p.2.2,[])
 |_=> .fail
def scM(l:Nat)(p:Nat×Bool×St):Nat:=match l with
 |0=>p.1+1
 |_=>0
theorem ri{A:Ad}{nl:Bool}{n:Nat}{st:St}{Q:Ex×E (SY A)->Prop}(h:(Zw A 0 (n+1,nl,st)).aD Q):((iY A.O nl st).bind fun f=> .ae (td A nl f)).aD fun xe=>match xe.1 with
 | .goto l'=>∃p',fF xe.2 (abf A l' p')∧scM l' p'<n+2∧(Zw A l' p').aD Q
 |_=>Q xe:=by
 simp only[Zw,Ev.runT,kv,bind_assoc,ax]at h
 rw[ax]
 refine an h (fun f hf=> ?_)
 cases f with
 |done s bx=>exact hf.1
 |fP s=>exact⟨(n,nl,s),fF.refl _,Nat.lt_succ_self _,by rw[Zw,ax];exact hf⟩
 |zN s=>exact⟨(n,nl,s),fF.refl _,Nat.succ_pos _,hf⟩
theorem C6{A:Ad}{st:St}{Q:Ex×E (SY A)->Prop}(h:(Ro A (lP A.O st,[])).aD Q):(WA A st).aD Q:=by
 unfold lP at h
 refine⟨fun h1=> ?_,fun h1=> ?_⟩
 ·rw[if_pos (by simpa using h1)]at h;exact h.1
 ·rw[if_neg (by simpa using h1)]at h;exact h.2
theorem yK{A:Ad}(hA:A.Ok):∀(n:Nat) (nl:Bool) (st:St) (Q:Ex×E (SY A)->Prop),(SY A).eM st->(Zw A 0 (n,nl,st)).aD Q->∃q,Q q∧(SY A).eM q.2.c.st
 |0,_,_,_,_,h=>h.elim
 |n+1,nl,st,Q,hb,h=>by
  obtain⟨⟨x,e⟩,hq,fX⟩:=(C4 A hA).mono (nl,st) _ hb (ri h)
  obtain⟨⟩|⟨i⟩|⟨l⟩|⟨⟩:=x
  ·exact⟨_,hq,fX⟩
  ·exact⟨_,hq,fX⟩
  ·obtain⟨⟨m,nl',s⟩,hl,hm,hs⟩:=hq
   have fm:(SY A).eM (abf A l (m,nl',s)).c.st:=by rw[hl.1];exact fX
   match l,hl,hm,hs,fm with
   |0,hl,hm,hs,fm=>exact yK hA m nl' s Q fm hs
   |1,hl,hm,hs,fm=>exact(C5 A hA).mono s Q fm (C6 hs)
   |_+2,hl,hm,hs,fm=>exact hs.elim
  ·exact⟨_,hq,fX⟩
 termination_by n=>n
 decreasing_by
  have:m+1<n+2:=hm
  omega
theorem ahI:findLabel lr 0=some (gr 0):=by kernel_rfl
theorem ahJ:findLabel lr 1=some (gr 1):=by kernel_rfl
theorem aeP:ah 2 (ah 3 lr)=ah 3 (gr 0):=by kernel_rfl
theorem Rp(A:Ad)(st:St):(az (Nr A) (ck 3 lr) (kG A (st,[]))).bind (fun xe=> .ae (xe.1,cU [0,2] xe.2))= .ae (.normal,nx0 A st.au {st with au:=false}):=by kernel_rfl
theorem Rq(A:Ad)(nl:Bool)(st:St):(az (Nr A) (ck 2 (ah 3 lr)) (nx0 A nl st)).bind (fun xe=> .ae (xe.1,cU (vR xe.1) xe.2))=
 .ae (.normal,⟨⟨stop st,[]⟩,[(0,.st 0),(2,.val (.bool nl)),(3,.val #[Value.int IntKind.u64 (u64 (1+st.aC)),Value.int IntKind.u64 (u64 (1+st.aL))][0]),(4,.val #[Value.int IntKind.u64 (u64 (1+st.aC)),Value.int IntKind.u64 (u64 (1+st.aL))][1])]⟩):=by kernel_rfl
theorem Rr(A:Ad)(hA:A.Ok):At (SY A) A5 (ah 3 lr) (fun q:Bool×St=>nx0 A q.1 q.2) (fun q=>(iY A.O q.1 q.2).bind fun f=> .ae (td A q.1 f)):=by
 refine At.IV (db A hA) (C:=Nr A) (bw A hA (lq A hA) A5 [] 0) 2 (by kernel_rfl) (by rw[aeP];exact KH A hA) vR (fun q Q hs=> ?_)
 exact bB (Rq A q.1 q.2) ⟨(q.1,u64 (1+q.2.aC),u64 (1+q.2.aL),stop q.2),fF.refl _,hs⟩
theorem Rs(A:Ad)(hA:A.Ok):At (SY A) A5 lr (fun st=>kG A (st,[])) (fun st=>(iY A.O st.au {st with au:=false}).bind fun f=> .ae (td A st.au f)):=by
 refine At.IV (db A hA) (C:=Nr A) (bw A hA (lq A hA) A5 [] 0) 3 (by kernel_rfl) (Rr A hA) (fun _=>[0,2]) (fun st Q hs=> ?_)
 exact bB (Rp A st) ⟨(st.au,{st with au:=false}),fF.refl _,hs⟩
theorem Rt{O:U}{nl:Bool}{st:St}:(A8 O (fun s=>Fin.done s []) (jM O nl) st).cg:=⟨trivial,⟨trivial,E6 _ _ _⟩,E6 _ _ _⟩
theorem Fb(O:U)(nl:Bool)(st:St):(kv O nl st).cg:=ek Rt (fun _=>trivial)
theorem Nu{O:U}{nl:Bool}{st:St}(hI:fQ O st∧O.size<=2048):(kv O nl st).aD fun s=>match s with
 | .go a'=>(fQ O a'∧O.size<=2048)∧left O a'<left O st
 | .out _=>True:=by
 unfold kv
 rw[ax]
 refine an (jA hI.1 hI.2) (fun f hf=> ?_)
 cases f with
 |done s bx=>trivial
 |fP s=>exact⟨⟨.inl hf.1,hI.2⟩,hf.2.2.1⟩
 |zN s=>trivial
theorem tp{O:U}{st:St}(h:fQ O st)(b:Bool):fQ O {st with au:=b}:=h.imp (fun h=>h.same rfl rfl rfl) (fun h=>h)
theorem jB{O:U}{st:St}(h:fQ O st)(hs:O.size<=2048):Pos O (aK O st).1∧Aw O st (aK O st).1∧
 ((aK O st).1.tok=1∨left O (aK O st).1<left O st∨(st.au=true∧(aK O st).1.au=false))∧vU st (aK O st).1:=by
 unfold aK
 refine cp (body:=kv O st.au) (μ:=left O) (fun a=>fQ O a∧Aw O st a∧a.au=false) (P:=fun r:St×List Value=>Pos O r.1∧Aw O st r.1∧(r.1.tok=1∨left O r.1<left O st∨(st.au=true∧r.1.au=false))∧vU st r.1) (fun a ha=> ?_) {st with au:=false} ⟨tp h false,⟨rfl,⟨[],by simp⟩,Nat.le_refl _,Nat.le_refl _,fun _ hk=>⟨hk.same rfl rfl rfl rfl,.inr ⟨rfl,Int.le_refl _⟩⟩,fun _ _ P hP h0=>hP.Zu.same st _ ⟨rfl,rfl,rfl,rfl,rfl,rfl,[],by simp⟩ h0⟩,rfl⟩
 obtain⟨h1,h2,h3⟩:=ha
 unfold kv
 rw[ax]
 refine an (jA h1 hs) (fun f hf=> ?_)
 have hl:=h2.left
 have tk:∀{s},vU a s->vU st s:=fun ht hk=>by
  obtain⟨s0,g1,gp,g2,g3⟩:=ht (h2.kp hs hk).1
  exact⟨s0,g1,gp,(h2.kp hs hk).2.trans g2,g3⟩
 cases f with
 |done s bx=>
  refine⟨hf.1,h2.trans hf.2.1,?_,tk hf.2.2.2⟩
  rcases hf.2.2.1 with h4|⟨h4,h5⟩
  ·exact .inr (.inl (by show left O s<_;omega))
  ·cases hn:st.au with
   |false=>exact .inl (h5 hn)
   |true=>exact .inr (.inr ⟨rfl,h4.trans h3⟩)
 |fP s=>exact⟨⟨.inl hf.1,h2.trans hf.2.1,hf.2.2.2.trans h3⟩,hf.2.2.1⟩
 |zN s=>
  have f1:Fw O s (lP O s):=by
   unfold lP
   split
   ·exact KE 5 (aR _ _).fw
   ·exact KE 4 (Fw.refl _ _)
  have Vh:=f1.left
  have hl3:=hf.2.2.1
  refine⟨(f1.pos hf.1).1,(h2.trans hf.2.1).trans (f1.aw hf.1),.inr (.inl (by show left O (lP O s)<_;omega)),tk (fun hk=> ?_)⟩
  obtain⟨s0,g1,gp,g2,g3,g4,g5⟩:=hf.2.2.2 hk
  have ks:=(hf.2.1.kp hs hk).1
  exact⟨s0,g1,gp,g2,g3.trans (f1.kp hf.1 hs ks).2,f1.lc.1.trans g4,f1.lc.2.trans g5⟩
def nxG(A:Ad)(st:St):af (Ex×E (SY A)):= .aY (fQ A.O st∧A.O.size<=2048) (Ro A (aK A.O st))
theorem abg{A:Ad}{st:St}{Q:Ex×E (SY A)->Prop}(h:(nxG A st).aD Q):(Zw A 0 (left A.O st+1,st.au,{st with au:=false})).aD Q:=by
 rw[Zw,ax]
 have hP:fQ A.O {st with au:=false}:=tp h.1.1 false
 exact qZ (d:=(mw,[])) (o0 (uy (Fb A.O st.au) _ _) (wL (P:=fun _=>True) (left A.O) (fun s=>fQ A.O s∧A.O.size<=2048) (fun a ha=>an (Nu ha) (fun s hs=>by cases s with
  |go a'=>exact hs
  |out b=>trivial)) _ _ ⟨hP,h.1.2⟩ (Nat.lt_succ_self _))) h.2
theorem Fc(A:Ad)(hA:A.Ok):At (SY A) A5 (.scope lr) (fun st=>kG A (st,[])) (nxG A):=by
 refine At.scope (F:=abf A) (gp:=ahH A) scM (h:=Zw A) (rest:=gr) (Rs A hA) (fun l=> ?_) (fun l p Q hs=> ?_) (fun l p Q hb hs=> ?_) (fun st Q hs=> ?_)
 ·match l with
  |0=>exact⟨fun p=>(C4 A hA).wp (p.2.1,p.2.2),fun p=>(C4 A hA).mono (p.2.1,p.2.2)⟩
  |1=>exact⟨fun p=>(C5 A hA).wp p.2.2,fun p=>(C5 A hA).mono p.2.2⟩
  |_+2=>exact⟨fun p bl a w Q hI h=>h.elim,fun p Q hb h=>h.elim⟩
 ·obtain⟨n,nl,st⟩:=p
  match l,n,hs with
  |0,0,hs=>exact hs.elim
  |0,n+1,hs=>exact⟨ahI,ri hs⟩
  |1,n,hs=>
   refine⟨ahJ,?_⟩
   have h1:(Ro A (lP A.O st,[])).aD Q:=hs
   refine an (C6 (Q:=fun xe=>Q xe∧∀l,xe.1≠ .goto l) ⟨⟨h1.1,fun l e=>by cases e⟩,⟨h1.2,fun l e=>by cases e⟩⟩) (fun xe hx=> ?_)
   obtain⟨x,e⟩:=xe
   obtain⟨⟩|⟨i⟩|⟨l⟩|⟨⟩:=x
   ·exact hx.1
   ·exact hx.1
   ·exact absurd rfl (hx.2 l)
   ·exact hx.1
  |_+2,n,hs=>exact hs.elim
 ·obtain⟨n,nl,st⟩:=p
  match l,hb,hs with
  |0,hb,hs=>exact yK hA n nl st Q hb hs
  |1,hb,hs=>exact(C5 A hA).mono st Q hb (C6 hs)
  |_+2,hb,hs=>exact hs.elim
 ·refine an (ri (abg hs)) (fun xe hx=> ?_)
  obtain⟨x,e⟩:=xe
  obtain⟨⟩|⟨i⟩|⟨l⟩|⟨⟩:=x
  ·exact hx
  ·exact hx
  ·obtain⟨p',h1,_,h3⟩:=hx;exact⟨p',h1,h3⟩
  ·exact hx
theorem Nv:(Tryz.f48).body=some (.scope lr):=by kernel_rfl
def Ru(A:Ad)(args:List SV)(c:aq (SY A)):af (SV×aq (SY A)):=
 match args,c.bx with
 |[.st 0],[]=> .aY (fQ A.O c.st∧A.O.size<=2048) (.ae (unit,⟨(aK A.O c.st).1,(aK A.O c.st).2⟩))
 |_,_=> .fail
def ahL(A:Ad):ej (SY A):=⟨48,#[],true,Ru A⟩
theorem Fe:(Tryz.f48).results.toList=[]:=by kernel_rfl
theorem Rv{A:Ad}{st:St}{Q:SV×aq (SY A)->Prop}(h:fQ A.O st∧A.O.size<=2048)(hq:Q (unit,⟨(aK A.O st).1,(aK A.O st).2⟩)):(nxG A st).aD fun xe=>(kR Tryz.f48 xe).aD Q:=by
 refine⟨h,?_,?_⟩
 ·show(match mL [] (Tryz.f48).results.toList with
   |some r=>af.ae (r,(⟨(aK A.O st).1,(aK A.O st).2⟩:aq (SY A)))
   |none=> .fail).aD Q
  rw[Fe];exact hq
 ·show(match mL [] (Tryz.f48).results.toList with
   |some r=>af.ae (r,(⟨(aK A.O st).1,(aK A.O st).2⟩:aq (SY A)))
   |none=> .fail).aD Q
  rw[Fe];exact hq
theorem WB(A:Ad)(hA:A.Ok):(ahL A).Ok:=by
 refine⟨fun args w=>by kernel_rfl,At.fn (Y:=SY A) Tryz.func48 Nv (N:=A5) rfl (π:=St) (arg:=fun _=>[.st 0]) (core:=fun st=>⟨st,[]⟩) (fun _=>by show 1<=A5;decide) (Fc A hA) (fun args c Q h=> ?_),At.iT (fn:=Tryz.f48) (Fc A hA) (fun args c Q h=> ?_)⟩
 ·change (Ru A args c).aD Q at h
  unfold Ru at h
  split at h
  ·rename_i M7
   obtain⟨st,bx⟩:=c
   have CS:bx=[]:=M7
   subst CS
   exact⟨st,rfl,rfl,Rv h.1 h.2⟩
  ·exact h.elim
 ·change (Ru A args c).aD Q at h
  unfold Ru at h
  split at h
  ·rename_i M7
   obtain⟨st,bx⟩:=c
   have CS:bx=[]:=M7
   subst CS
   exact⟨st,rfl,Rv h.1 h.2⟩
  ·exact h.elim
theorem On.op{O:U}{a b:St}(h:On O a b):b.op=a.op:=by rw[h.bm]
theorem Ff{O s:U}{φ ψ:St->St}(C1:∀st,(φ st).op=st.op)(Wd:∀st,(ψ st).op=st.op)(st:St):(ku O s φ ψ st).op=st.op:=by
 unfold ku
 split
 ·rw[Wd];exact(kz _ _ _).op
 ·rw[C1];exact(kz _ _ _).op
theorem Be(O:U)(st:St):(fZ O st).op=st.op:=(dq O cm (stop st)).op
theorem Bf(O:U)(st:St):(gK O st).op=st.op:=(dK O (stop st)).op
theorem yL(O:U)(st:St):(bp O st).op=st.op:=by
 unfold bp
 split
 ·exact(j7 _ _).op
 ·split
  ·exact Be _ _
  ·exact Ff (Be O) (fun st=>(j7 O st).op) st
theorem pg(O:U)(st:St):(aJ O st).op=st.op:=by
 unfold aJ
 split
 ·exact(j8 _ _).op
 ·split
  ·exact Bf _ _
  ·exact Ff (Bf O) (fun st=>(j8 O st).op) st
def Rk(s:St):Prop:=(1<=s.tok∧s.tok<=46)∧(0<=s.op∧s.op<=23)
def C7(s:St):Prop:=0<=s.op∧s.op<=23
theorem C7.of{a b:St}(h:C7 a)(e:b.op=a.op):C7 b:=by unfold C7;rw[e];exact h
theorem Fg{O:U}{st:St}(hc:fY st)(h:C7 st):Rk (dV O st)∧(dV O st).tok≠1:=by
 have e:∀s,s.op=st.op->Rk (cW O s)∧(cW O s).tok≠1:=fun s hs=>by
  unfold cW
  split
  ·rename_i hk
   have:=CU _ hk.2.1
   exact⟨⟨⟨by show(1:Int)<=(k_ _:Nat);omega,by show((k_ _:Nat):Int)<=46;omega⟩,h.of hs⟩,by show((k_ _:Nat):Int)≠1;omega⟩
  ·exact⟨⟨⟨by show(1:Int)<=2;decide,by show(2:Int)<=46;decide⟩,h.of hs⟩,by show(2:Int)≠1;decide⟩
 unfold dV
 split
 ·exact e _ ((dq O qp st).trans (wU O _ (pS hc)).1).op
 ·exact e _ (dq O qp st).op
theorem abh{O:U}{st:St}{s:bh}(h:s.st.op=st.op):(EY O s).all (fun s=>s.st.tok=3∧s.st.op=st.op):=
 ⟨fun _=>⟨fun _=>⟨fun _=>⟨rfl,h⟩,fun _=>⟨rfl,h⟩⟩,fun _=>⟨rfl,h⟩⟩,fun _=>⟨rfl,h⟩⟩
theorem abi{st:St}{s:bh}(h:s.st.tok=3∧s.st.op=st.op):(Ha s).all (fun s=>s.st.tok=3∧s.st.op=st.op):=
 ⟨fun _=>⟨fun _=>⟨fun _=>h,fun _=>h⟩,fun _=>h⟩,fun _=>h⟩
theorem Bg{O:U}{seen:Bool}{st:St}(hO:gV O st)(hc:st.ch≠10)(h:C7 st):Rk (fp O seen st)∧(fp O seen st).tok≠1:=by
 have tail:∀s,gf O st s->(dd O True af.ae s).aD (fun s=>s.st.tok=3∧s.st.op=st.op):=fun s hs=>by
  simp only[dd,ax]
  exact an (sZ hs) fun a h=>an (s_ h) fun a h=>an (tb trivial h) fun a h=>an (pf h) fun a h=>an (jN (CY h) (abh h.on.op)) fun a h=>an (jN (CZ h.1) (abi h.2)) fun a h=>h.2
 have key:(dr O True af.ae seen st).aD (fun s=>s.st.tok=3∧s.st.op=st.op):=by
  unfold dr
  split
  ·exact tail _ ⟨.inr (.inr (.inl rfl)),hO,.inl (by show(-1:Int)<0;decide),On.refl _ _⟩
  ·rw[ax];exact an (pe hO hc) fun a ha=>tail a ha
 obtain⟨h1,h2⟩:=(tc hO hc).1 key
 have e:(fp O seen st).tok=3:=h1
 exact⟨⟨by rw[e];decide,h.of h2⟩,by rw[e];decide⟩
theorem Fh{α:Type}{t:af α}{P R:α->Prop}(h:t.aD P)(hr:t.aD R):t.aD (fun a=>P a∧R a):=by
 induction t with
 |ae a=>exact⟨h,hr⟩
 |aj b t e iQ jH=>exact⟨fun hb=>iQ (h.1 hb) (hr.1 hb),fun hb=>jH (h.2 hb) (hr.2 hb)⟩
 |aY p k ih=>exact⟨h.1,ih h.2 hr.2⟩
 |any t e iQ jH=>exact⟨iQ h.1 hr.1,jH h.2 hr.2⟩
 |fail=>exact h.elim
def IY:Fin->Prop
 | .done s _=>Rk s∧(s.tok=1->s.ch= -1)
 | .fP s=>C7 s
 | .zN s=>C7 s
theorem KI{O:U}{nl:Bool}{st:St}(hO:gV O st)(hr:C7 st):(jM O nl st).aD IY:=by
 have hb:=hO.b
 have eqv:∀{k:Int},(st.ch==k)=true->st.ch=k:=fun h=>by simpa using h
 have f1o:∀{t:Int} {s:St},(2<=t∧t<=46)->C7 s->(te t s).aD IY:=fun{t s} h e=>⟨⟨⟨by show 1<=t;omega,h.2⟩,e⟩,fun e1=>by have:t=1:=e1;omega⟩
 have f1:∀{t:Int} {s:St},(2<=t∧t<=46)->s.op=st.op->(te t s).aD IY:=fun h e=>f1o h (hr.of e)
 have no:∀{s:St} {bx:List Value},Rk s∧s.tok≠1->IY (.done s bx):=fun h=>⟨h.1,fun e=>absurd e h.2⟩
 have f4:∀{o p:Int} {s:St},(0<=o∧o<=23)->(DT o p s).aD IY:=fun h=>no ⟨⟨⟨by show(1:Int)<=4;decide,by show(4:Int)<=46;decide⟩,h⟩,by show(4:Int)≠1;decide⟩
 have fA:∀{o p:Int} {s:St},(0<=o∧o<=23)->(E4 o p s).aD IY:=fun h=>h
 have fl:∀{w:U} {s:St},s.op=st.op->IY (.done (lit w s) []):=fun e=>no ⟨⟨⟨by show(1:Int)<=18;decide,by show(18:Int)<=46;decide⟩,hr.of e⟩,by show(18:Int)≠1;decide⟩
 have num:∀k:Int,k≠10->(st.ch==k)=true->(fi O false st).aD IY:=fun k hk h=>by
  have hc:st.ch≠10:=fun e=>hk ((eqv h).symm.trans e)
  exact⟨⟨hO,hc⟩,no (Bg hO hc hr)⟩
 have lt3:∀{k:Int} {ok:Bool} {s:St},s.op=st.op->IY (.done (bJ O k ok s) []):=fun e=>no ⟨⟨⟨by show(1:Int)<=3;decide,by show(3:Int)<=46;decide⟩,hr.of e⟩,by show(3:Int)≠1;decide⟩
 refine bf (fun h0=>ar (fl rfl) ⟨⟨⟨by show(1:Int)<=1;decide,by show(1:Int)<=46;decide⟩,hr.of rfl⟩,fun _=>eqv h0⟩) (ar (fl rfl) ?_)
 refine bf (num 48 (by decide)) (bf (num 49 (by decide)) (bf (num 50 (by decide)) (bf (num 51 (by decide)) (bf (num 52 (by decide)) ?_))))
 refine bf (num 53 (by decide)) (bf (num 54 (by decide)) (bf (num 55 (by decide)) (bf (num 56 (by decide)) (bf (num 57 (by decide)) ?_))))
 refine ar ⟨hb,lt3 (QH O st).op⟩ (ar ⟨hb,lt3 (QG O st).op⟩ (ar ⟨hb,lt3 ((aR O st).trans (wO O (aa O st,true,0))).op⟩ ?_))
 refine ar (f1 (by decide) rfl) (ar (f1 (by decide) rfl) (ar (f1 (by decide) rfl) (ar (f1 (by decide) rfl) (ar (fl rfl) (ar (f1 (by decide) rfl) (ar (f1 (by decide) rfl) (ar (f1 (by decide) rfl) ?_)))))))
 refine ar (ar (f1 (by decide) rfl) (f1 (by decide) rfl)) ?_
 refine bf (fun h=>bf (fun h3=> ?_) (ar (ar (f1 (by decide) rfl) ⟨hb,f1 (by decide) rfl⟩) (f1 (by decide) rfl))) ?_
 ·have o1:=(hO.next (by rw[eqv h];decide)).1
  have c1:(aa O st).ch≠10:=fun e=>by rw[e]at h3;exact absurd h3 (by decide)
  exact⟨⟨o1,c1⟩,no (Bg o1 c1 (hr.of rfl))⟩
 refine ar (ar (fA (by decide)) (f1o (by decide) (show(0:Int)<=13∧(13:Int)<=23 by decide))) (ar (ar (fA (by decide)) (f1o (by decide) (show(0:Int)<=14∧(14:Int)<=23 by decide))) (ar (ar (f1o (by decide) (show(0:Int)<=17∧(17:Int)<=23 by decide)) (f1o (by decide) (show(0:Int)<=17∧(17:Int)<=23 by decide))) ?_))
 have r1:IY (.fP (bp O (aa O (aa O st)))):=hr.of (yL _ _)
 have r2:IY (.fP (aJ O (aa O (aa O st)))):=hr.of (pg _ _)
 refine ar (ar ⟨hb,r1⟩ (ar ⟨hb,ar (ar (fl (pg _ _)) r2) r2⟩ (fA (by decide)))) ?_
 refine ar (fA (by decide)) (ar (ar (f4 (by decide)) (ar (show(0:Int)<=21∧(21:Int)<=23 by decide) (fA (by decide)))) (ar (ar (f4 (by decide)) (fA (by decide))) (ar (fA (by decide)) ?_)))
 refine ar (ar (f4 (by decide)) (ar (fA (by decide)) (ar (f1 (by decide) rfl) (f4 (by decide))))) (ar (ar (f4 (by decide)) (ar (fA (by decide)) (f4 (by decide)))) (ar (ar (f4 (by decide)) (f1 (by decide) rfl)) (ar (ar (f4 (by decide)) (f4 (by decide))) (ar (f4 (by decide)) ?_))))
 exact hr.of rfl
theorem Bh{O:U}{nl:Bool}{st:St}(h:fQ O st)(hs:O.size<=2048)(hr:C7 st):(iY O nl st).aD IY:=by
 obtain⟨p1,a1,n1⟩:=ly (nl:=nl) h
 have r1:C7 (skip O (aI nl) (stop st)):=hr.of (dq O (aI nl) (stop st)).op
 have key:∀bl:Bool,(A8 O (fun s=>Fin.done s []) (jM O nl) (gC bl (skip O (aI nl) (stop st)))).aD IY:=fun bl=>by
  have r2:C7 (gC bl (skip O (aI nl) (stop st))):=r1.of rfl
  have hO:=ti (bl:=bl) p1 hs
  have hP:=tj bl p1
  generalize gC bl (skip O (aI nl) (stop st))=s at*
  have oI:=pb O true s
  have no:∀{s:St} {bx:List Value},Rk s∧s.tok≠1->IY (.done s bx):=fun h=>⟨h.1,fun e=>absurd e h.2⟩
  exact⟨fun _=>⟨⟨cq _ _,hO.b⟩,no (Fg (cq _ _) (r2.of rfl))⟩,fun _=>⟨fun _=>⟨hP.ch,fun _=>⟨⟨cq _ _,by rw[oI.b];exact hO.b⟩,no (Fg (cq _ _) (r2.of oI.op))⟩,fun _=>KI (yI hO) (r2.of oI.op)⟩,fun _=>KI hO r2⟩⟩
 exact key _
theorem Bi{O:U}{st:St}(h:fQ O st)(hs:O.size<=2048)(hr:C7 st):Rk (aK O st).1∧((aK O st).1.tok=1->(aK O st).1.ch= -1):=by
 unfold aK
 refine cp (body:=kv O st.au) (μ:=left O) (fun a=>fQ O a∧C7 a) (P:=fun r:St×List Value=>Rk r.1∧(r.1.tok=1->r.1.ch= -1)) (fun a ha=> ?_) {st with au:=false} ⟨tp h false,hr⟩
 unfold kv
 rw[ax]
 have h1:=jA (nl:=st.au) ha.1 hs
 have h2:=Bh (nl:=st.au) ha.1 hs ha.2
 have h3:(iY O st.au a).aD (fun f=>SwR O st.au a f∧IY f):=Fh h1 h2
 refine an h3 (fun f hf=> ?_)
 obtain⟨hf,hk⟩:=hf
 cases f with
 |done s bx=>exact hk
 |fP s=>exact⟨⟨.inl hf.1,hk⟩,hf.2.2.1⟩
 |zN s=>
  have hk:C7 s:=hk
  show Rk (lP O s)∧((lP O s).tok=1->_)
  unfold lP
  split
  ·exact⟨⟨⟨by show(1:Int)<=5;decide,by show(5:Int)<=46;decide⟩,hk.of rfl⟩,fun e=>absurd (show(5:Int)=1 from e) (by decide)⟩
  ·exact⟨⟨⟨by show(1:Int)<=4;decide,by show(4:Int)<=46;decide⟩,hk.of rfl⟩,fun e=>absurd (show(4:Int)=1 from e) (by decide)⟩
theorem Rw{O:U}{st:St}(h:fQ O st)(hs:O.size<=2048)(hr:C7 st):Rk (aK O st).1:=(Bi h hs hr).1
theorem get_bind{α β:Type}{t:af α}{P:α->Prop}(h:t.aD P)(f:α->af β)(d:β)(x:α):(t.bind f).get d=(f (t.get x)).get d:=by
 induction t with
 |ae a=>rfl
 |aj b t e iQ jH=>
  cases b with
  |true=>exact iQ (h.1 rfl)
  |false=>exact jH (h.2 rfl)
 |aY p k ih=>exact ih h.2
 |any t e iQ _=>exact iQ h.1
 |fail=>exact h.elim
def Bj{α β:Type}(I:α->Prop)(μ:α->Nat)(a:α):Step α β->Prop
 | .go a'=>I a'∧μ a'<μ a
 | .out _=>True
theorem Bk{α β:Type}{body:α->af (Step α β)}{μ:α->Nat}{I:α->Prop}(hb:∀a,I a->(body a).aD (Bj I μ a)){d:β}:∀(n m:Nat) (a:α),I a->μ a<n->μ a<m->(Ev.runT body n a).get d=(Ev.runT body m a).get d
 |0,_,_,_,h,_=>by omega
 |_,0,_,_,_,h=>by omega
 |n+1,m+1,a,ha,hn,hm=>by
  have hs:=hb a ha
  simp only[Ev.runT]
  rw[get_bind hs _ d (.out d),get_bind hs _ d (.out d)]
  have hg:=dI (d:= .out d) hs
  cases hk:(body a).get (.out d)with
  |out b=>rfl
  |go a'=>
   rw[hk]at hg
   obtain⟨h1,h2⟩:=hg
   exact Bk hb n m a' h1 (by omega) (by omega)
def cG{α β:Type}(body:α->af (Step α β))(μ:α->Nat)(d:β):Step α β->β
 | .go a=>cC body μ d a
 | .out b=>b
theorem ei{α β:Type}{body:α->af (Step α β)}{μ:α->Nat}{I:α->Prop}(hb:∀a,I a->(body a).aD (Bj I μ a)){d:β}{a:α}(ha:I a)(x:Step α β):cC body μ d a=cG body μ d ((body a).get x):=by
 have hs:=hb a ha
 unfold cC
 simp only[Ev.runT]
 rw[get_bind hs _ d x]
 have hg:=dI (d:=x) hs
 cases hk:(body a).get x with
 |out b=>rfl
 |go a'=>
  rw[hk]at hg
  obtain⟨h1,h2⟩:=hg
  exact Bk hb _ _ a' h1 h2 (Nat.lt_succ_self _)
def Ah{α β:Type}(R:α->β->Prop):af α->af β->Prop
 | .ae a,.ae b=>R a b
 | .aj c t e,.aj c' t' e'=>c=c'∧(c=true->Ah R t t')∧(c=false->Ah R e e')
 | .aY _ k,.aY _ k'=>Ah R k k'
 | .fail,.fail=>True
 |_,_=>False
theorem Rx{α β:Type}{R:α->β->Prop}{d:α}{d':β}(hd:R d d'):∀(t:af α) (t':af β),Ah R t t'->R (t.get d) (t'.get d'):=by
 intro t
 induction t with
 |ae a=>intro t' h;cases t' with
  |ae b=>exact h
  |_=>exact h.elim
 |aj c t e iQ jH=>intro t' h;cases t' with
  |aj c' t2 e2=>
   obtain⟨rfl,h1,h2⟩:=h
   cases c with
   |true=>exact iQ t2 (h1 rfl)
   |false=>exact jH e2 (h2 rfl)
  |_=>exact h.elim
 |aY p k ih=>intro t' h;cases t' with
  |aY p' k'=>exact ih k' h
  |_=>exact h.elim
 |any t e _ _=>intro t' h;cases t'<;>exact h.elim
 |fail=>intro t' h;cases t' with
  |fail=>exact hd
  |_=>exact h.elim
theorem Nw{α β γ δ:Type}{R:α->β->Prop}{S:γ->δ->Prop}{f:α->af γ}{g:β->af δ}(hf:∀a b,R a b->Ah S (f a) (g b)):∀(t:af α) (t':af β),Ah R t t'->Ah S (t.bind f) (t'.bind g):=by
 intro t
 induction t with
 |ae a=>intro t' h;cases t' with
  |ae b=>exact hf _ _ h
  |_=>exact h.elim
 |aj c t e iQ jH=>intro t' h;cases t' with
  |aj c' t2 e2=>exact⟨h.1,fun hc=>iQ _ (h.2.1 hc),fun hc=>jH _ (h.2.2 hc)⟩
  |_=>exact h.elim
 |aY p k ih=>intro t' h;cases t' with
  |aY p' k'=>exact ih k' h
  |_=>exact h.elim
 |any t e _ _=>intro t' h;cases t'<;>exact h.elim
 |fail=>intro t' h;cases t' with
  |fail=>trivial
  |_=>exact h.elim
def KJ{α OX β WC:Type}(R:α->OX->Prop)(S:β->WC->Prop):Step α β->Step OX WC->Prop
 | .go a,.go a'=>R a a'
 | .out b,.out b'=>S b b'
 |_,_=>False
theorem Fi{α OX β WC:Type}{R:α->OX->Prop}{S:β->WC->Prop}{body:α->af (Step α β)}{Fj:OX->af (Step OX WC)}(h:∀a a',R a a'->Ah (KJ R S) (body a) (Fj a')):∀n a a',R a a'->Ah S (Ev.runT body n a) (Ev.runT Fj n a')
 |0,_,_,_=>trivial
 |n+1,a,a',ha=>by
  simp only[Ev.runT]
  refine Nw (fun s s' hs=> ?_) _ _ (h a a' ha)
  cases s with
  |go x=>cases s' with
   |go x'=>exact Fi h n x x' hs
   |out _=>exact hs.elim
  |out x=>cases s' with
   |go _=>exact hs.elim
   |out x'=>exact hs
theorem yM{α OX β WC:Type}{R:α->OX->Prop}{S:β->WC->Prop}{body:α->af (Step α β)}{Fj:OX->af (Step OX WC)}{μ:α->Nat}{μ':OX->Nat}{d:β}{d':WC}
 (hμ:∀a a',R a a'->μ' a'=μ a)(hd:S d d')(h:∀a a',R a a'->Ah (KJ R S) (body a) (Fj a')){a:α}{a':OX}(ha:R a a'):S (cC body μ d a) (cC Fj μ' d' a'):=by
 unfold cC
 rw[hμ a a' ha]
 exact Rx hd _ _ (Fi h _ a a' ha)
def dE(a b:St):Prop:=∃m ns bb,b={a with mode:=m,ab:=ns,b:=bb}
def kq(a b:St):Prop:=dE a b∧b.b=a.b
theorem dE.refl(a:St):dE a a:=⟨a.mode,a.ab,a.b,rfl⟩
theorem dE.symm{a b:St}(h:dE a b):dE b a:=by obtain⟨m,ns,bb,rfl⟩:=h;exact⟨a.mode,a.ab,a.b,rfl⟩
theorem dE.trans{a b c:St}(h:dE a b)(h':dE b c):dE a c:=by
 obtain⟨m,ns,bb,rfl⟩:=h
 obtain⟨m',OY,bb',rfl⟩:=h'
 exact⟨m',OY,bb',rfl⟩
theorem kq.refl(a:St):kq a a:=⟨dE.refl a,rfl⟩
theorem dE.ch{a b:St}(h:dE a b):b.ch=a.ch:=by obtain⟨m,ns,bb,rfl⟩:=h;rfl
theorem dE.p{a b:St}(h:dE a b):b.p=a.p:=by obtain⟨m,ns,bb,rfl⟩:=h;rfl
theorem dE.bD{a b:St}(h:dE a b):b.bD=a.bD:=by obtain⟨m,ns,bb,rfl⟩:=h;rfl
theorem dE.aC{a b:St}(h:dE a b):b.aC=a.aC:=by obtain⟨m,ns,bb,rfl⟩:=h;rfl
theorem dE.aL{a b:St}(h:dE a b):b.aL=a.aL:=by obtain⟨m,ns,bb,rfl⟩:=h;rfl
theorem dE.line{a b:St}(h:dE a b):b.line=a.line:=by obtain⟨m,ns,bb,rfl⟩:=h;rfl
theorem dE.aM{a b:St}(h:dE a b):b.aM=a.aM:=by obtain⟨m,ns,bb,rfl⟩:=h;rfl
theorem dE.au{a b:St}(h:dE a b):b.au=a.au:=by obtain⟨m,ns,bb,rfl⟩:=h;rfl
theorem dE.lit{a b:St}(h:dE a b):b.lit=a.lit:=by obtain⟨m,ns,bb,rfl⟩:=h;rfl
theorem dE.tok{a b:St}(h:dE a b):b.tok=a.tok:=by obtain⟨m,ns,bb,rfl⟩:=h;rfl
theorem dE.left(O:U){a b:St}(h:dE a b):left O b=left O a:=by obtain⟨m,ns,bb,rfl⟩:=h;rfl
theorem ob(O:U)(line:Int):∀(f:Nat) (ao:Bool) (p:Nat) (aM:Int) (ns OY:List e_),∃l,ak O line f ao p aM OY={ak O line f ao p aM ns with ab:=l}
 |0,_,_,_,_,OY=>⟨OY,rfl⟩
 |f+1,ao,p,aM,ns,OY=>by
  simp only[ak]
  by_cases h1:p<O.size
  ·simp only[if_pos h1]
   by_cases h2:(O.get! p).toNat<128
   ·simp only[if_pos h2]
    by_cases h3:(O.get! p).toNat=0∧ao=false
    ·simp only[if_pos h3];exact ob O line f _ _ _ _ _
    ·simp only[if_neg h3];exact⟨OY,rfl⟩
   ·simp only[if_neg h2]
    by_cases h3:(Utf8.decode O p).1=0xFFFD∧(Utf8.decode O p).2=1
    ·simp only[if_pos h3];exact ob O line f _ _ _ _ _
    ·simp only[if_neg h3]
     by_cases h4:(Utf8.decode O p).1=0xFEFF
     ·simp only[if_pos h4];exact ob O line f _ _ _ _ _
     ·simp only[if_neg h4];exact⟨OY,rfl⟩
  ·simp only[if_neg h1];exact⟨OY,rfl⟩
theorem dE.next{O:U}{a b:St}(h:dE a b):dE (aa O a) (aa O b):=by
 obtain⟨m,ns,bb,rfl⟩:=h
 obtain⟨l,hl⟩:=ob O (aB a) (O.size+1) a.ao a.p (aS a) a.ab ns
 refine⟨m,l,bb,?_⟩
 show St.read _ (aB a) (ak O (aB a) (O.size+1) a.ao a.p (aS a) ns)=_
 rw[hl];rfl
theorem kq.next{O:U}{a b:St}(h:kq a b):kq (aa O a) (aa O b):=⟨h.1.next,h.2⟩
theorem dE.iG{a b:St}(h:dE a b)(l c:Int)(m:U):dE (iG l c m a) (iG l c m b):=by obtain⟨m,ns,bb,rfl⟩:=h;exact⟨_,_,_,rfl⟩
theorem kq.iG{a b:St}(h:kq a b)(l c:Int)(m:U):kq (iG l c m a) (iG l c m b):=⟨h.1.iG l c m,h.2⟩
theorem kq.error{a b:St}(h:kq a b)(m:U):kq (error m a) (error m b):=by
 have:Sc.error m b=Sc.iG (u64 (1+a.aC)) (u64 (1+a.aL)) m b:=by unfold Sc.error;rw[h.1.aC,h.1.aL]
 rw[this];exact h.iG _ _ _
theorem kq.bF{a b:St}(h:kq a b)(o:Int)(m:U):kq (bF o m a) (bF o m b):=by
 have:Sc.bF o m b=Sc.iG a.line (u64 (a.aM+u64 o)) m b:=by unfold Sc.bF;rw[h.1.line,h.1.aM]
 rw[this];exact h.iG _ _ _
theorem dE.lf{O:U}{c:Int->Bool}:∀(n:Nat) {a b:St},dE a b->dE (lf O c n a) (lf O c n b)
 |0,a,b,h=>h
 |n+1,a,b,h=>by
  simp only[Sc.lf,h.ch]
  split
  ·exact dE.lf n h.next
  ·exact h
theorem dE.skip{O:U}{c:Int->Bool}{a b:St}(h:dE a b):dE (skip O c a) (skip O c b):=by
 unfold Sc.skip
 rw[h.left O]
 exact dE.lf _ h
theorem kq.skip{O:U}{c:Int->Bool}{a b:St}(h:kq a b):kq (skip O c a) (skip O c b):=
 ⟨h.1.skip,by rw[(dq O c b).b,(dq O c a).b];exact h.2⟩
theorem kq.fG{O:U}{a b:St}(h:kq a b):fG O b=fG O a:=by
 unfold Sc.fG
 rw[h.2,h.1.p,h.1.bD]
theorem kq.Ry{O:U}{a b:St}(h:kq a b)(k:Int)(ok:Bool):kq (bJ O k ok a) (bJ O k ok b):=by
 refine⟨?_,h.2⟩
 unfold bJ
 rw[h.fG]
 obtain⟨⟨m,ns,bb,rfl⟩,_⟩:=h
 exact⟨m,ns,bb,rfl⟩
theorem dE.upd{a b:St}(h:dE a b)(f:St->St)(hf:∀a m ns bb,f {a with mode:=m,ab:=ns,b:=bb}={f a with mode:=m,ab:=ns,b:=bb}):dE (f a) (f b):=by
 obtain⟨m,ns,bb,rfl⟩:=h
 exact⟨m,ns,bb,hf _ _ _ _⟩
theorem kq.upd{a b:St}(h:kq a b)(f:St->St)(hf:∀a m ns bb,f {a with mode:=m,ab:=ns,b:=bb}={f a with mode:=m,ab:=ns,b:=bb})(hb:∀a,(f a).b=a.b):kq (f a) (f b):=⟨h.1.upd f hf,by rw[hb,hb];exact h.2⟩
theorem IZ:cm (-1)=false:=rfl
def RBS(x y:Bool×St):Prop:=y.1=x.1∧kq x.2 y.2
def Zx(x y:St×Bool):Prop:=kq x.1 y.1∧y.2=x.2
theorem w8{O:U}{b:Int}{p q:St×Int×Int}(h:kq p.1 q.1∧q.2=p.2):kq (bZ O b p).1 (bZ O b q).1∧(bZ O b q).2=(bZ O b p).2:=by
 refine yM (R:=fun p q:St×Int×Int=>kq p.1 q.1∧q.2=p.2) (S:=fun x y:St×Int×Option Bool=>kq x.1 y.1∧y.2=x.2) (fun p q h=>by unfold It;rw[h.2]) ⟨kq.refl _,rfl⟩ (fun p q h=> ?_) h
 obtain⟨a,x,i⟩:=p
 obtain⟨b',x',i'⟩:=q
 obtain⟨h,he⟩:=h
 have h:kq a b':=h
 simp only[Prod.mk.injEq]at he
 obtain⟨rfl,rfl⟩:=he
 refine⟨rfl,fun _=>⟨by show _=decide (b'.ch<0);rw[h.1.ch],fun _=>⟨h,rfl⟩,fun _=>⟨by show _=decide (eG b b'.ch>=b);rw[h.1.ch],fun _=>⟨h.error _,rfl⟩,fun _=>⟨h.next,?_⟩⟩⟩,fun _=>⟨h,rfl⟩⟩
 show(_,_)=(_,_)
 rw[show b'.ch=a.ch from h.1.ch]
theorem lZ{b m:Int}{r s:St×Int×Option Bool}(h:kq r.1 s.1∧s.2=r.2):RBS (dG b m r) (dG b m s):=by
 obtain⟨a,x,i⟩:=r
 obtain⟨b',x',i'⟩:=s
 obtain⟨h,he⟩:=h
 have h:kq a b':=h
 simp only[Prod.mk.injEq]at he
 obtain⟨rfl,rfl⟩:=he
 unfold dG
 cases i' with
 |some y=>exact⟨rfl,h⟩
 |none=>
  simp only
  split
  ·exact⟨rfl,h.error _⟩
  ·split
   ·exact⟨rfl,h.error _⟩
   ·exact⟨rfl,h⟩
theorem kq.escape{O:U}{q:Int}{a b:St}(h:kq a b):RBS (bt O q a) (bt O q b):=by
 unfold bt
 rw[h.1.ch]
 split
 ·exact⟨rfl,h.next⟩
 ·split
  ·exact lZ (w8 ⟨h,rfl⟩)
  ·split
   ·exact lZ (w8 ⟨h.next,rfl⟩)
   ·split
    ·exact lZ (w8 ⟨h.next,rfl⟩)
    ·split
     ·exact lZ (w8 ⟨h.next,rfl⟩)
     ·split
      ·exact⟨rfl,h⟩
      ·exact⟨rfl,h.error _⟩
theorem Rz{O:U}{p q:St×Bool}(h:Zx p q):Zx (mW O p) (mW O q):=by
 refine yM (R:=Zx) (S:=Zx) (fun p q h=>h.1.1.left O) ⟨kq.refl _,rfl⟩ (fun p q h=> ?_) h
 obtain⟨h,he⟩:=h
 exact⟨by rw[h.1.ch],fun _=>⟨h.next,he⟩,fun _=>⟨by rw[h.1.ch],fun _=>⟨h.bF _ _,rfl⟩,fun _=>⟨h.next,he⟩⟩⟩
theorem RA{O:U}{p q:St×Bool}(h:Zx p q):Zx (iV O p) (iV O q):=by
 refine yM (R:=Zx) (S:=Zx) (fun p q h=>h.1.1.left O) ⟨kq.refl _,rfl⟩ (fun p q h=> ?_) h
 obtain⟨h,he⟩:=h
 have he1:=h.next (O:=O)|>.escape (O:=O) (q:=34)
 exact⟨by rw[h.1.ch],fun _=>⟨h.next,he⟩,fun _=>⟨by rw[h.1.ch],fun _=>⟨by rw[he1.1],fun _=>⟨he1.2,rfl⟩,fun _=>⟨he1.2,he⟩⟩,
  fun _=>⟨by rw[h.1.ch],fun _=>⟨h.error _,rfl⟩,fun _=>⟨by rw[h.1.ch],fun _=>⟨h.bF _ _,rfl⟩,fun _=>⟨h.next,he⟩⟩⟩⟩⟩
theorem kq.raw{O:U}{a b:St}(h:kq a b):kq (fb O a) (fb O b):=by
 have:=Rz (O:=O) (p:=(aa O a,true)) (q:=(aa O b,true)) ⟨h.next,rfl⟩
 unfold fb
 rw[this.2];exact this.1.Ry _ _
theorem kq.str{O:U}{a b:St}(h:kq a b):kq (fc O a) (fc O b):=by
 have:=RA (O:=O) (p:=(aa O a,true)) (q:=(aa O b,true)) ⟨h.next,rfl⟩
 unfold fc
 rw[this.2];exact this.1.Ry _ _
def R2(p q:St×Int):Prop:=kq p.1 q.1∧q.2=p.2
theorem kq.lY{a b:St}(h:kq a b):lY b=lY a:=by unfold Sc.lY;rw[h.1.aL,h.1.aM]
theorem kq.lO{a b:St}(h:kq a b):kq (lO a) (lO b):=h.upd Sc.lO (fun _ _ _ _=>rfl) (fun _=>rfl)
end
end Sc
end Go.Proofs.YtogkcphobhhbdaaGreatDoor
namespace Go.Proofs
open Go.Shelf
noncomputable section
def Tryz.Fl:Go.Shelf.Ren:=⟨fun|173=>75|246=>103|283=>111|284=>112|285=>113|286=>114|129=>117|317=>116|318=>118|319=>119|320=>120|337=>121|338=>122|n=>n,fun|2=>2|3=>3|9=>9|4=>4|171=>108|0=>0|53=>125|37=>40|5=>5|173=>153|212=>158|51=>109|20=>20|213=>159|46=>66|232=>163|233=>164|n=>n,fun|17=>10|18=>11|19=>12|n=>n⟩
theorem Tryz.WD:Go.Proofs.Lays.n173 Tryz.prog Tryz.Fl:={
 mixed:=by kernel_rfl
 f129:=Tryz.func117.trans (congrArg some (by kernel_rfl))
 f173:=Tryz.func75.trans (congrArg some (by kernel_rfl))
 f246:=Tryz.func103.trans (congrArg some (by kernel_rfl))
 f283:=Tryz.func111.trans (congrArg some (by kernel_rfl))
 f284:=Tryz.func112.trans (congrArg some (by kernel_rfl))
 f285:=Tryz.func113.trans (congrArg some (by kernel_rfl))
 f286:=Tryz.func114.trans (congrArg some (by kernel_rfl))
 f317:=Tryz.func116.trans (congrArg some (by kernel_rfl))
 f318:=Tryz.func118.trans (congrArg some (by kernel_rfl))
 f319:=Tryz.func119.trans (congrArg some (by kernel_rfl))
 f320:=Tryz.func120.trans (congrArg some (by kernel_rfl))
 f337:=Tryz.func121.trans (congrArg some (by kernel_rfl))
 f338:=Tryz.func122.trans (congrArg some (by kernel_rfl))
 t0:=Tryz.underlying0
 a0:=Tryz.isAgg0
 z0:=Tryz.sizeOf0
 v0:=Tryz.zeroValue0
 t2:=Tryz.underlying2
 a2:=Tryz.isAgg2
 z2:=Tryz.sizeOf2
 v2:=Tryz.zeroValue2
 t3:=Tryz.underlying3
 a3:=Tryz.isAgg3
 z3:=Tryz.sizeOf3
 v3:=Tryz.zeroValue3
 t4:=Tryz.underlying4
 a4:=Tryz.isAgg4
 z4:=Tryz.sizeOf4
 v4:=Tryz.zeroValue4
 t5:=Tryz.underlying5
 a5:=Tryz.isAgg5
 z5:=Tryz.sizeOf5
 v5:=Tryz.zeroValue5
 t9:=Tryz.underlying9
 a9:=Tryz.isAgg9
 z9:=Tryz.sizeOf9
 v9:=Tryz.zeroValue9
 t20:=Tryz.underlying20
 a20:=Tryz.isAgg20
 z20:=Tryz.sizeOf20
 v20:=Tryz.zeroValue20
 t37:=Tryz.underlying40
 a37:=Tryz.isAgg40
 z37:=Tryz.sizeOf40
 v37:=Tryz.zeroValue40
 t46:=Tryz.underlying66
 a46:=Tryz.isAgg66
 z46:=Tryz.sizeOf66
 v46:=Tryz.zeroValue66
 t51:=Tryz.underlying109
 a51:=Tryz.isAgg109
 z51:=Tryz.sizeOf109
 v51:=Tryz.zeroValue109
 t53:=Tryz.underlying125
 a53:=Tryz.isAgg125
 z53:=Tryz.sizeOf125
 v53:=Tryz.zeroValue125
 t171:=Tryz.underlying108
 a171:=Tryz.isAgg108
 z171:=Tryz.sizeOf108
 v171:=Tryz.zeroValue108
 t173:=Tryz.underlying153
 a173:=Tryz.isAgg153
 z173:=Tryz.sizeOf153
 v173:=Tryz.zeroValue153
 t212:=Tryz.underlying158
 a212:=Tryz.isAgg158
 z212:=Tryz.sizeOf158
 v212:=Tryz.zeroValue158
 t213:=Tryz.underlying159
 a213:=Tryz.isAgg159
 z213:=Tryz.sizeOf159
 t232:=Tryz.underlying163
 a232:=Tryz.isAgg163
 z232:=Tryz.sizeOf163
 v232:=Tryz.zeroValue163
 t233:=Tryz.underlying164
 a233:=Tryz.isAgg164
 z233:=Tryz.sizeOf164
 v233:=Tryz.zeroValue164
 g17:=by kernel_rfl
 g18:=by kernel_rfl
 g19:=by kernel_rfl}
open Go.RowKit Go.Sort Go.Lib in
theorem Tryz.strconv_FormatInt_10_small(i:Nat)(hi:i<100)(w:World):
 Calls Tryz.prog 75 #[.int .i64 i,.int .i64 10] w fun e w'=>e= .returned (.string ⟨(Lib.decDigits i).toArray⟩)∧w'=w:=Any.strconv_FormatInt_10_small Tryz.WD i hi w
end
end Go.Proofs
namespace Go.Proofs.YtogkcphobhhbdaaGreatDoor
open Go Go.RowKit Go.Lib
namespace Sc
set_option maxRecDepth 100000
noncomputable section
def WE:U:=⟨#[58,33,60,45,126,124,124,38,38,61,61,33,61,60,60,61,62,62,61,43,45,124,94,42,47,37,38,38,94,60,60,62,62]⟩
def aeR(i:Nat):Nat:=[0,1,2,4,5,7,9,11,13,14,16,17,19,20,21,22,23,24,25,26,27,29,31,33].getD i 0
def RB(t:Nat):U:=WE.extract (aeR (t-1)) (aeR t)
theorem RC(w:World)(h:∀i,i<48->w.cell? ⟨0,i,none⟩=some (.int .u8 ([0,3,7,14,16,19,23,24,26,28,29,30,31,32,33,34,35,36,37,38,39,42,47,51,55,60,68,75,80,84,95,98,102,104,108,110,116,125,128,135,140,146,152,158,164,168,171,171].getD i 0)))(t:Nat)(h1:1<=t)(h2:t<=47):
 Calls Tryz.prog 49 #[.int .u64 t] w fun e w'=>e= .returned (.string (aH t))∧∃m,w'=w.drewN m:=by
 have key:=List.mem_range.2 (Nat.lt_succ_of_le h2)
 simp only[Nat.succ_eq_add_one,Nat.reduceAdd,List.range,List.range.loop,List.mem_cons,List.not_mem_nil,or_false]at key
 rcases key with rfl|rfl|rfl|rfl|rfl|rfl|rfl|rfl|rfl|rfl|rfl|rfl|rfl|rfl|rfl|rfl|rfl|rfl|rfl|rfl|rfl|rfl|rfl|rfl|rfl|rfl|rfl|rfl|rfl|rfl|rfl|rfl|rfl|rfl|rfl|rfl|rfl|rfl|rfl|rfl|rfl|rfl|rfl|rfl|rfl|rfl|rfl|rfl
 ·exact absurd h1 (by decide)
 all_goals
  have c1:=h (_-1) (Nat.lt_of_le_of_lt (Nat.sub_le _ 1) (Nat.lt_succ_of_le h2))
  have c2:=h _ (Nat.lt_succ_of_le h2)
  simp only[Nat.reduceSub,List.getD_cons_succ,List.getD_cons_zero]at c1 c2
  simp only[Int.cast_ofNat_Int]
  clear h h1 h2
  go_enter Tryz.func49,Tryz.ntmps49
  go_wp2_with fail
  go_quiet (fail)
  go_wp2_with fail
  go_ret
  exact⟨rfl,_,rfl⟩
theorem WG(w:World)(h:∀i,i<24->w.cell? ⟨1,i,none⟩=some (.int .u8 ([0,1,2,4,5,7,9,11,13,14,16,17,19,20,21,22,23,24,25,26,27,29,31,33].getD i 0)))(t:Nat)(h1:1<=t)(h2:t<=23):
 Calls Tryz.prog 50 #[.int .u64 t] w fun e w'=>e= .returned (.string (RB t))∧∃m,w'=w.drewN m:=by
 have key:=List.mem_range.2 (Nat.lt_succ_of_le h2)
 simp only[Nat.succ_eq_add_one,Nat.reduceAdd,List.range,List.range.loop,List.mem_cons,List.not_mem_nil,or_false]at key
 rcases key with rfl|rfl|rfl|rfl|rfl|rfl|rfl|rfl|rfl|rfl|rfl|rfl|rfl|rfl|rfl|rfl|rfl|rfl|rfl|rfl|rfl|rfl|rfl|rfl
 ·exact absurd h1 (by decide)
 all_goals
  have c1:=h (_-1) (Nat.lt_of_le_of_lt (Nat.sub_le _ 1) (Nat.lt_succ_of_le h2))
  have c2:=h _ (Nat.lt_succ_of_le h2)
  simp only[Nat.reduceSub,List.getD_cons_succ,List.getD_cons_zero]at c1 c2
  simp only[Int.cast_ofNat_Int]
  clear h h1 h2
  go_enter Tryz.func50,Tryz.ntmps50
  go_wp2_with fail
  go_quiet (fail)
  go_wp2_with fail
  go_ret
  exact⟨rfl,_,rfl⟩
def RD:U:=ByteArray.mk #[79,112,101,114,97,116,111,114,40,48,41]
theorem RE(w:World):Calls Tryz.prog 75 #[.int .i64 0,.int .i64 10] w fun e w'=>e= .returned (.string ⟨#[48]⟩)∧w'=w:=
 (Tryz.strconv_FormatInt_10_small 0 (by decide) w).mono (fun e w' h=>⟨h.1.trans (by simp[Lib.decDigits]),h.2⟩)
theorem aeS(w:World):Calls Tryz.prog 50 #[.int .u64 0] w fun e w'=>e= .returned (.string RD)∧∃m,w'=w.drewN m:=by
 go_enter Tryz.func50,Tryz.ntmps50
 go_wp2_with (go_at_call 75;refine(RE _).mono ?_;rintro e w' ⟨rfl,rfl⟩)
 go_ret
 exact⟨rfl,0,rfl⟩
def zeroCells:Array Value:=#[.nilIface,.nilFunc,.slice none 0 0,.nilIface,.int .i64 0,.int .i64 0,.int .i64 0,.int .u64 0,.int .u64 0,.int .i32 0,.int .i64 0,
 .int .u64 0,.bool false,.int .u64 0,.int .u64 0,.bool false,.int .u64 0,.string ByteArray.empty,.bool false,.int .u8 0,.int .u64 0,.int .i64 0]
theorem yN{P:Program}(w:World)(a:Addr)(f:Fn)(x y:Array Value)(m:Mode):(store a (.func f x y) m).run P w=stored P w a (.func f x y) m:=run_store P w a _ m rfl
theorem Fm(w:World):(binOp .eql 40 (.slice none 0 0) (.slice none 0 0)).run Tryz.prog w= .ok (.bool true) w:=by
 have h:∀d,(Op.equalIn (d+1) 40 (.slice none 0 0) (.slice none 0 0)).run Tryz.prog w= .ok true w:=fun d=>by
  rw[Op.equalIn]
  simp[go_sem]
 have:=h 9999
 simp only[binOp,Op.equal,Op.maxDepth,Sem.run_bind]
 rw[this];rfl
theorem RF(w:World):Calls Tryz.prog 83 #[.int .i64 0] w fun e w'=>e= .returned (.int .i64 4096)∧w'=w:=by
 go_enter Tryz.func83,Tryz.ntmps83
 go_wp2
 go_ret
 exact⟨rfl,rfl⟩
def C8:Array Value:=madeCells #[.int .u8 0] 4096
theorem WH:(Tryz.prog.info? 5).map (fun i=>(i.zero,i.size,i.bytes))=some (some (.int .u8 0),1,1):=by kernel_rfl
theorem abk(w:World):(Instr.makeSlice 40 (.int .i64 4096) (.int .i64 4096)).run Tryz.prog w= .ok (.slice (some ⟨w.heap.size,0,none⟩) 4096 4096) (w.alloc (.cells C8 5)):=by
 obtain⟨i0,hi,Eh,L5,HU⟩:=info_parts WH
 have:=run_make w 40 5 i0 _ Tryz.underlying40 hi Eh .i64 .i64 4096 4096 (by decide) (by decide) (by rw[HU];decide) (by decide)
 rw[this,L5]
 rfl
def yO(w:World)(s rd e:Nat):World:=
 ((((((((((w.setCell ⟨s,0,none⟩ (.iface 92 (.pointer (some ⟨rd,0,none⟩)))).setCell ⟨s,1,none⟩ (.func (.func 47) #[] #[.pointer (some ⟨e,0,none⟩)])).setCell ⟨s,2,none⟩ (.slice (some ⟨w.heap.size,0,none⟩) 4096 4096)).setCell
   ⟨s,3,none⟩ .nilIface).setCell ⟨s,4,none⟩ (.int .i64 (-1))).setCell ⟨s,5,none⟩ (.int .i64 0)).setCell ⟨s,6,none⟩ (.int .i64 0)).setCell ⟨s,7,none⟩ (.int .u64 0)).setCell ⟨s,8,none⟩ (.int .u64 0)).setCell ⟨s,9,none⟩ (.int .i32 32)).setCell ⟨s,10,none⟩ (.int .i64 0)
def qE(w:World)(s rd e:Nat):World:=(yO w s rd e).alloc (.cells (C8.setIfInBounds 0 (.int .u8 128)) 5)
theorem C9(w:World)(s rd e:Nat)(hs:w.heap[s]? =some (.cells zeroCells 90 (0,0))):
 Calls Tryz.prog 58 #[.pointer (some ⟨s,0,none⟩),.iface 92 (.pointer (some ⟨rd,0,none⟩)),.func (.func 47) #[] #[.pointer (some ⟨e,0,none⟩)]] w fun en w'=>en= .returned (.tuple #[])∧w'=qE w s rd e:=by
 have c0:=ag hs (o:=0) (v:= .nilIface) rfl
 have c1:=ag hs (o:=1) (v:= .nilFunc) rfl
 have c2:=ag hs (o:=2) (v:= .slice none 0 0) rfl
 have c3:=ag hs (o:=3) (v:= .nilIface) rfl
 have c4:=ag hs (o:=4) (v:= .int .i64 0) rfl
 have c5:=ag hs (o:=5) (v:= .int .i64 0) rfl
 have c6:=ag hs (o:=6) (v:= .int .i64 0) rfl
 have c7:=ag hs (o:=7) (v:= .int .u64 0) rfl
 have c8:=ag hs (o:=8) (v:= .int .u64 0) rfl
 have c9:=ag hs (o:=9) (v:= .int .i32 0) rfl
 have c10:=ag hs (o:=10) (v:= .int .i64 0) rfl
 have fr:∀o,w.frozen? ⟨s,o,none⟩=false:=fun o=>aV hs
 have bz:s<w.heap.size:=(Array.getElem?_eq_some_iff.1 hs).1
 have z0:C8[0]? =some (.int .u8 0):=by simp[C8,madeCells]
 clear hs
 go_enter Tryz.func58,Tryz.ntmps58
 go_wp2_with (first|(rw[yN];go_simp)|(rw[Fm];go_simp)|(refine(RF _).mono ?_;rintro e w' ⟨rfl,rfl⟩)|(rw[abk];go_simp))
 go_end0
 exact⟨rfl,rfl⟩
theorem pj{w:World}{b o:Nat}{c:Array Value}{t:TypeId}{f:Nat×Nat}(h:w.heap[b]? =some (.cells c t f)):w.cell? ⟨b,o,none⟩=c[o]? :=by
 simp[World.cell?,h]
theorem I0(w:World)(s rd e:Nat):(qE w s rd e).heap.size=w.heap.size+1:=by simp[qE,yO]
theorem pW(w:World)(s rd e:Nat):(yO w s rd e).heap.size=w.heap.size:=by simp[yO]
def Fo(buf rd e:Nat):Array Value:=#[.iface 92 (.pointer (some ⟨rd,0,none⟩)),.func (.func 47) #[] #[.pointer (some ⟨e,0,none⟩)],.slice (some ⟨buf,0,none⟩) 4096 4096,.nilIface,.int .i64 (-1),.int .i64 0,.int .i64 0,.int .u64 0,.int .u64 0,.int .i32 32,.int .i64 0,
 .int .u64 0,.bool false,.int .u64 0,.int .u64 0,.bool false,.int .u64 0,.string ByteArray.empty,.bool false,.int .u8 0,.int .u64 0,.int .i64 0]
theorem I1{w:World}{s rd e:Nat}(hs:w.heap[s]? =some (.cells zeroCells 90 (0,0))):(yO w s rd e).heap[s]? =some (.cells (Fo w.heap.size rd e) 90 (0,0)):=by
 unfold yO
 refine Eq.trans (aZ _ (aZ _ (aZ _ (aZ _ (aZ _ (aZ _ (aZ _ (aZ _ (aZ _ (aZ _ (aZ _ hs))))))))))) ?_
 exact congrArg (fun c=>some (Obj.cells c 90 (0,0))) (by kernel_rfl)
theorem I2{w:World}{s rd e k:Nat}(h:k≠s):(yO w s rd e).heap[k]? =w.heap[k]? :=by
 unfold yO
 repeat rw[Below.heap_setCell _ _ _ _ h]
theorem vV{w:World}{s rd e:Nat}(hs:w.heap[s]? =some (.cells zeroCells 90 (0,0))):(qE w s rd e).heap[s]? =some (.cells (Fo w.heap.size rd e) 90 (0,0)):=by
 have bz:s<w.heap.size:=(Array.getElem?_eq_some_iff.1 hs).1
 unfold qE
 rw[Below.heap_alloc _ _ _ (by rw[pW];exact bz)]
 exact I1 hs
def I3(w:World)(s rd e:Nat)(m:Int):World:=((qE w s rd e).setCell ⟨s,11,none⟩ (.int .u64 m)).setCell ⟨s,12,none⟩ (.bool false)
theorem Ny(w:World)(s rd e:Nat)(m:Int)(hs:w.heap[s]? =some (.cells zeroCells 90 (0,0))):
 Calls Tryz.prog 45 #[.pointer (some ⟨s,0,none⟩),.iface 92 (.pointer (some ⟨rd,0,none⟩)),.func (.func 47) #[] #[.pointer (some ⟨e,0,none⟩)],.int .u64 m] w fun en w'=>en= .returned (.tuple #[])∧w'=I3 w s rd e m:=by
 have hb:=vV (rd:=rd) (e:=e) hs
 have c11:=ag hb (o:=11) (v:= .int .u64 0) rfl
 have c12:=ag hb (o:=12) (v:= .bool false) rfl
 have fr:∀o,(qE w s rd e).frozen? ⟨s,o,none⟩=false:=fun o=>aV hb
 have H:=C9 w s rd e hs
 clear hb hs
 go_enter Tryz.func45,Tryz.ntmps45
 go_wp2_with (go_at_call 58;refine H.mono ?_;rintro en w' ⟨rfl,rfl⟩)
 go_end0
 exact⟨rfl,rfl⟩
theorem yP(w:World)(v:Value)(hv:v.oneCell'=true)(hsl:∃a n c,v= .slice a n c):
 Calls Tryz.prog 46 #[v] w fun en w'=>en= .returned (.pointer (some ⟨w.heap.size,0,none⟩))∧w'=w.alloc (.cells #[v,.int .i64 0,.int .i64 (-1)] 100):=by
 obtain⟨a,n,c,rfl⟩:=hsl
 go_enter Tryz.func46,Tryz.ntmps46
 go_wp2
 go_ret
 exact⟨rfl,rfl⟩
theorem tq(w:World)(o:Obj):(w.alloc o).heap[w.heap.size]? =some o:=by
 show(w.heap.push o)[w.heap.size]? =_
 simp
def Nz:U:=⟨(Array.replicate 4096 (0:UInt8)).setIfInBounds 0 128⟩
theorem Bl:Nz.size=4096:=by simp[Nz,ByteArray.size]
theorem RG(i:Nat)(h:i<4096):C8[i]? =some (.int .u8 0):=by
 simp[C8,madeCells,h,Nat.mod_one]
theorem I4:bM Nz=C8.setIfInBounds 0 (.int .u8 128):=by
 apply Array.ext_getElem?
 intro i
 have hz:C8.size=4096:=size_madeCells _ _
 simp only[bM,Nz,Array.getElem?_map,Array.getElem?_setIfInBounds,Array.size_replicate,hz]
 by_cases hi:0=i
 ·subst hi;simp
 ·rw[if_neg hi,if_neg hi,Array.getElem?_replicate]
  by_cases h:i<4096
  ·rw[if_pos h,RG i h];rfl
  ·rw[if_neg h,Array.getElem?_eq_none (by omega)];rfl
def jj(m:Int):St:=⟨true,0,0,none,0,0,32,m,false,0,0,false,0,ByteArray.empty,false,0,0,0,[]⟩
def aeT(m:Int):Raw:=⟨Nz,false,-1,0,0,0,0,32,0,m,false,0,0,false,0,ByteArray.empty,false,0,0,0,0,[]⟩
def RH(w0 w:World)(sb cb:Nat)(ea:Addr)(O:U):Ad:=⟨w0,w.heap.size+1,w.heap.size+3,w.heap.size+2,w.heap.size,sb,w.heap.size+4,cb,ea,O⟩
def WI(w:World):World:=w.alloc (.cells #[.slice none 0 0] 63)
def OZ(w:World):World:=(WI w).alloc (.cells zeroCells 90)
def Fp(w:World)(sb n cb:Nat):World:=(OZ w).alloc (.cells #[.slice (some ⟨sb,0,none⟩) n cb,.int .i64 0,.int .i64 (-1)] 100)
def Fq(w:World)(sb n cb:Nat)(m:Int):World:=I3 (Fp w sb n cb) (w.heap.size+1) (w.heap.size+2) w.heap.size m
structure Start(w0 w:World)(sb cb:Nat)(ea:Addr)(O:U):Prop where
 jU:oU w0 ea
 n:O.size<=2048
 below:Below w0.heap.size w0 w
 lo:w0.heap.size<=sb
 hi:sb<w.heap.size
 O:∀j,j<O.size->w.cell? ⟨sb,j,none⟩=some (.int .u8 (O.get! j).toNat)
theorem Fs{w0 w:World}{sb cb:Nat}{ea:Addr}{O:U}(h:Start w0 w sb cb ea O):(RH w0 w sb cb ea O).Ok:=by
 have:=h.below.size;have:=h.lo;have:=h.hi
 refine⟨h.jU,h.n,h.lo,?_,?_,?_,?_,h.hi,?_,?_,?_,?_⟩<;>simp only[RH]<;>omega
theorem pk(w:World)(sb n cb:Nat):(Fp w sb n cb).heap.size=w.heap.size+3:=by simp[Fp,OZ,WI]
theorem RJ(w:World)(sb n cb:Nat)(m:Int):(Fq w sb n cb m).heap.size=w.heap.size+4:=by simp[Fq,I3,I0,pk]
theorem Zy(w:World)(sb n cb:Nat):(Fp w sb n cb).heap[w.heap.size+1]? =some (.cells zeroCells 90 (0,0)):=by
 unfold Fp
 rw[Below.heap_alloc _ _ _ (by simp[OZ,WI])]
 have e:(WI w).heap.size=w.heap.size+1:=by simp[WI]
 unfold OZ
 rw[←e]
 exact tq _ _
theorem WJ(w:World)(sb n cb k:Nat)(h:k<w.heap.size):(Fp w sb n cb).heap[k]? =w.heap[k]? :=by
 unfold Fp OZ WI
 rw[Below.heap_alloc _ _ _ (by simp;omega),Below.heap_alloc _ _ _ (by simp;omega),Below.heap_alloc _ _ _ h]
theorem aeU(w:World)(sb n cb:Nat):(Fp w sb n cb).heap[w.heap.size]? =some (.cells #[.slice none 0 0] 63 (0,0)):=by
 unfold Fp OZ WI
 rw[Below.heap_alloc _ _ _ (by simp;omega),Below.heap_alloc _ _ _ (by simp)]
 exact tq _ _
theorem abl(w:World)(sb n cb:Nat):(Fp w sb n cb).heap[w.heap.size+2]? =some (.cells #[.slice (some ⟨sb,0,none⟩) n cb,.int .i64 0,.int .i64 (-1)] 100 (0,0)):=by
 have e:(OZ w).heap.size=w.heap.size+2:=by simp[OZ,WI]
 unfold Fp
 rw[←e]
 exact tq _ _
theorem uI{w:World}{sb n cb k:Nat}{m:Int}(h:k≠w.heap.size+1)(hk:k<w.heap.size+3):(Fq w sb n cb m).heap[k]? =(Fp w sb n cb).heap[k]? :=by
 unfold Fq I3 qE
 rw[Below.heap_setCell _ _ _ _ h,Below.heap_setCell _ _ _ _ h,Below.heap_alloc _ _ _ (by rw[pW,pk];exact hk),I2 h]
theorem WK{w:World}{sb n cb:Nat}{m:Int}:(Fq w sb n cb m).heap[w.heap.size+3]? =some (.cells (bM Nz) 5 (0,0)):=by
 have e:(yO (Fp w sb n cb) (w.heap.size+1) (w.heap.size+2) w.heap.size).heap.size=w.heap.size+3:=by rw[pW,pk]
 unfold Fq I3 qE
 rw[Below.heap_setCell _ _ _ _ (show w.heap.size+3≠w.heap.size+1 by omega),Below.heap_setCell _ _ _ _ (show w.heap.size+3≠w.heap.size+1 by omega),←e,I4]
 exact tq _ _
theorem aeV{w:World}{sb n cb:Nat}{m:Int}{w0:World}{ea:Addr}{O:U}:(Fq w sb n cb m).heap[w.heap.size+1]? =some (.cells (eV (RH w0 w sb cb ea O) (aeT m)) 90 (0,0)):=by
 have h:=vV (rd:=w.heap.size+2) (e:=w.heap.size) (Zy w sb n cb)
 rw[pk]at h
 unfold Fq I3
 refine Eq.trans (aZ _ (aZ _ h)) ?_
 exact congrArg (fun c=>some (Obj.cells c 90 (0,0))) (by kernel_rfl)
theorem I5{B s rd e:Nat}{a w:World}(h:Below B a w)(hs:B<=s):Below B a (yO w s rd e):=by
 unfold yO
 have step:∀{w:World} (o:Nat) (v:Value),Below B a w->Below B a (w.setCell ⟨s,o,none⟩ v):=fun o v h=>Below.setCell h hs v
 exact step _ _ (step _ _ (step _ _ (step _ _ (step _ _ (step _ _ (step _ _ (step _ _ (step _ _ (step _ _ (step _ _ h))))))))))
theorem NA{w0 w:World}{sb cb:Nat}{ea:Addr}{O:U}(h:Start w0 w sb cb ea O)(m:Int):Below w0.heap.size w0 (Fq w sb O.size cb m):=by
 have hb:=h.below.size
 have hs:w0.heap.size<=w.heap.size+1:=by omega
 have b3:Below w0.heap.size w0 (Fp w sb O.size cb):=Below.alloc (Below.alloc (Below.alloc h.below hb _) (by simp;omega) _) (by simp;omega) _
 have b4:=Below.alloc (I5 (rd:=w.heap.size+2) (e:=w.heap.size) b3 hs) (by rw[pW,pk];omega) (.cells (C8.setIfInBounds 0 (.int .u8 128)) 5)
 unfold Fq I3 qE
 exact Below.setCell (Below.setCell b4 (show w0.heap.size<=(⟨w.heap.size+1,11,none⟩:Addr).block from hs) _) (show w0.heap.size<=(⟨w.heap.size+1,12,none⟩:Addr).block from hs) _
theorem NB{w0 w:World}{sb cb:Nat}{ea:Addr}{O:U}(h:Start w0 w sb cb ea O)(m:Int):jm (RH w0 w sb cb ea O) (jj m) (Fq w sb O.size cb m):=by
 have hb:=h.below.size;have OV:=h.lo;have hhi:=h.hi
 have old:∀k,k<w.heap.size->(Fq w sb O.size cb m).heap[k]? =w.heap[k]? :=fun k hk=>by
  rw[uI (by omega) (by omega),WJ _ _ _ _ _ hk]
 refine⟨aeT m,⟨Fs h,?_,aeV,WK,Bl,?_,?_,⟨.slice none 0 0,?_,?_⟩,?_⟩,⟨⟨0,0,0,?_,rfl,Nat.le_refl _,rfl⟩,fun _=>⟨rfl,rfl⟩,(fun e=>by cases e),Nat.zero_le _,rfl⟩⟩
 ·exact NA h m
 ·show(Fq w sb O.size cb m).heap[w.heap.size+2]? =_
  rw[uI (by omega) (by omega),abl];rfl
 ·intro j hj
  show(Fq w sb O.size cb m).cell? ⟨sb,j,none⟩=_
  rw[World.cell?_of_block (w:=w) (a:=⟨sb,j,none⟩) (old sb hhi)]
  exact h.O j hj
 ·show(Fq w sb O.size cb m).heap[w.heap.size]? =_
  rw[uI (by omega) (by omega),aeU]
 ·exact⟨rfl,.inl ⟨rfl,rfl⟩⟩
 ·show w.heap.size+4<=_
  rw[RJ];exact Nat.le_refl _
 ·exact⟨rfl,rfl,Nat.le_refl _,rfl,Bl,fun j hj=>absurd hj (Nat.not_lt_zero _),by kernel_rfl,.inr rfl,(fun e=>by cases e),h.n⟩
end
end Sc
end Go.Proofs.YtogkcphobhhbdaaGreatDoor
namespace Go.Proofs.YtogkcphobhhbdaaGreatDoor
open Go Go.RowKit Go.Lib
namespace Sc
open Ev
set_option maxRecDepth 100000
noncomputable section
def lz(O:U):Nat->St->List St
 |0,_=>[]
 |n+1,st=>if(aK O st).1.tok=1 then [(aK O st).1]else(aK O st).1::lz O n (aK O st).1
def fz(O:U)(st:St):Nat:=2*left O st+(if st.au=true then 1 else 0)
def iZ(O:U)(m:Int):List St:=lz O (fz O (jj m)+1) (jj m)
structure Iv(O:U)(st:St):Prop where
 sz:O.size<=2048
 pos:fQ O st
 kp:Kp st
 op:C7 st
theorem Iv.le{O:U}{st:St}(h:Iv O st):st.p<=O.size:=by
 rcases h.pos with h1|h1
 ·exact h1.n
 ·exact h1.2
theorem jP{O:U}{st:St}(h:Iv O st):Iv O (aK O st).1∧Rk (aK O st).1∧vU st (aK O st).1∧((aK O st).1.tok≠1->fz O (aK O st).1<fz O st):=by
 obtain⟨h1,h2,h3,h4⟩:=jB h.pos h.sz
 have hk:=Rw h.pos h.sz h.op
 refine⟨⟨h.sz,.inl h1,(h2.kp h.sz h.kp).1,hk.2⟩,hk,h4,fun dH=> ?_⟩
 have hl:=h2.left
 rcases h3 with h3|h3|⟨h5,h6⟩
 ·exact absurd h3 dH
 ·unfold fz;split<;>split<;>omega
 ·unfold fz;rw[if_pos h5,if_neg (by rw[h6];decide)];omega
theorem j9(O:U)(m:Int)(hs:O.size<=2048):Iv O (jj m):=
 ⟨hs,.inr ⟨rfl,Nat.zero_le _⟩,⟨by show(0:Int)<=0;decide,by show(0:Int)<=0;decide,by show(0:Int)+(0:Nat)<=(0:Nat);decide,by show(0:Int)+2*(0:Nat)<=2*(0:Nat);decide⟩,⟨by show(0:Int)<=0;decide,by show(0:Int)<=23;decide⟩⟩
def Ord(l c:Int)(s:St):Prop:=l<s.line∨(l=s.line∧c<=s.aM)
structure Tk(s:St):Prop where
 rk:Rk s
 l0:1<=s.line
 l1:s.line<=5000
 c0:1<=s.aM
 c1:s.aM<=5000
inductive Good:Int->Int->List St->Prop
 |last {l c:Int} {s:St}:s.tok=1->Ord l c s->Tk s->Good l c [s]
 |more {l c:Int} {s:St} {t:List St}:s.tok≠1->Ord l c s->Tk s->Good s.line s.aM t->Good l c (s::t)
theorem yQ{O:U}:∀(n:Nat) (st:St) (l c:Int),Iv O st->fz O st<n->(l<1+st.aC∨(l=1+st.aC∧c<=1+st.aL))->Good l c (lz O n st)
 |0,_,_,_,_,h,_=>absurd h (Nat.not_lt_zero _)
 |n+1,st,l,c,hI,hm,ho=>by
  obtain⟨gy,hk,ht,bz⟩:=jP hI
  obtain⟨s0,k0,k9,x1,x2,e1,e2⟩:=ht hI.kp
  have b1:=k0.l0;have b2:=k0.c0;have b7:=k0.c;have b8:=k0.l
  have e1:(aK O st).1.line=1+s0.aC:=e1.trans (b_ (by omega) (by omega))
  have e2:(aK O st).1.aM=1+s0.aL:=e2.trans (b_ (by omega) (by omega))
  have tk:Tk (aK O st).1:=⟨hk,by omega,by omega,by omega,by omega⟩
  have od:Ord l c (aK O st).1:=by unfold Ord;unfold Lx at x1;omega
  rw[lz]
  by_cases h1:(aK O st).1.tok=1
  ·rw[if_pos h1];exact .last h1 od tk
  ·rw[if_neg h1]
   exact .more h1 od tk (yQ n _ _ _ gy (by have:=bz h1;omega) (by rw[e1,e2];unfold Lx at x2;omega))
theorem uJ{O:U}(m:Int)(hs:O.size<=2048):Good 1 1 (iZ O m):=
 yQ _ _ _ _ (j9 O m hs) (Nat.lt_succ_self _) (.inr ⟨rfl,by show(1:Int)<=1+0;decide⟩)
theorem Good.ne{l c:Int}{L:List St}(h:Good l c L):L≠[]:=by cases h<;>simp
theorem Good.at{l c:Int}{L:List St}(h:Good l c L):∀(i:Nat) (s:St),L[i]? =some s->Tk s∧(s.tok=1↔i+1=L.length)∧(∀r,0<i->L[i-1]? =some r->Ord r.line r.aM s):=by
 induction h with
 |last h1 h2 h3=>
  intro i s hi
  cases i with
  |zero=>simp only[List.getElem?_cons_zero,Option.some.injEq]at hi;subst hi;exact⟨h3,by simp[h1],fun r hr=>absurd hr (Nat.lt_irrefl _)⟩
  |succ i=>simp at hi
 |@more l c s0 t h1 h2 h3 h4 ih=>
  intro i s hi
  cases i with
  |zero=>
   simp only[List.getElem?_cons_zero,Option.some.injEq]at hi;subst hi
   have:=h4.ne
   have hl:t.length≠0:=fun e=>this (List.eq_nil_of_length_eq_zero e)
   exact⟨h3,by simp only[List.length_cons];constructor<;>intro hh<;>omega,fun r hr=>absurd hr (Nat.lt_irrefl _)⟩
  |succ i=>
   simp only[List.getElem?_cons_succ]at hi
   obtain⟨g1,g2,g3⟩:=ih i s hi
   refine⟨g1,by simp only[List.length_cons];rw[g2];omega,fun r _ hr=> ?_⟩
   cases i with
   |zero=>
    simp only[Nat.zero_add,Nat.sub_self,List.getElem?_cons_zero,Option.some.injEq]at hr
    subst hr
    cases h4 with
    |last _ ho _=>simp only[List.getElem?_cons_zero,Option.some.injEq]at hi;subst hi;exact ho
    |more _ ho _ _=>simp only[List.getElem?_cons_zero,Option.some.injEq]at hi;subst hi;exact ho
   |succ i=>
    simp only[Nat.add_sub_cancel,List.getElem?_cons_succ]at hr
    exact g3 r (Nat.succ_pos _) (by simpa using hr)
inductive rj:List St->List St->Prop
 |nil:rj [] []
 |cons {a b:St} {l k:List St}:dE a b->rj l k->rj (a::l) (b::k)
theorem rj.length{L K:List St}(h:rj L K):K.length=L.length:=by
 induction h with
 |nil=>rfl
 |cons _ _ ih=>simp[ih]
theorem rj.at{L K:List St}(h:rj L K):∀(i:Nat) (a b:St),L[i]? =some a->K[i]? =some b->dE a b:=by
 induction h with
 |nil=>intro i a b h1;simp at h1
 |cons hs _ ih=>
  intro i a b h1 h2
  cases i with
  |zero=>simp only[List.getElem?_cons_zero,Option.some.injEq]at h1 h2;subst h1;subst h2;exact hs
  |succ i=>simp only[List.getElem?_cons_succ]at h1 h2;exact ih i a b h1 h2
theorem Bm{O:U}:∀(n:Nat) (st:St),(lz O n st).length<=n
 |0,_=>Nat.le_refl _
 |n+1,st=>by
  rw[lz]
  split
  ·simp
  ·have:=Bm n (aK O st).1 (O:=O)
   simp;omega
theorem Ft(O:U)(m:Int)(hs:O.size<=2048):(iZ O m).length<=9000:=by
 have:=Bm (O:=O) (fz O (jj m)+1) (jj m)
 have h2:fz O (jj m)<=8196:=by
  have:left O (jj m)=2*(O.size-0)+1:=rfl
  unfold fz
  rw[if_neg (show¬(jj m).au=true from fun h=>by cases h)]
  omega
 unfold iZ
 omega
end
end Sc
end Go.Proofs.YtogkcphobhhbdaaGreatDoor
