/- The scanner of the program told as plain functions, part 7: texts joined and shortened by a program (wip/tools/mini.py). -/
import Derived.Test.YtogkcphobhhbdaaGreatDoorYc6
import Derived.WalkSmall
set_option linter.unusedVariables false
set_option linter.unusedSimpArgs false
set_option maxHeartbeats 32000000
namespace Go.Proofs.YtogkcphobhhbdaaGreatDoor
open Go Go.RowKit Go.Lib
namespace Sc
open Ev
set_option maxRecDepth 100000
noncomputable section
def nv(a b:Int):Int:=IntKind.i64.wrap ↑(BitVec.ofInt IntKind.i64.bits a|||BitVec.ofInt IntKind.i64.bits b).toNat
def lY(st:St):Int:=IntKind.i64.wrap (IntKind.u64.wrap (u64 (1+st.aL)-st.aM))
def vN(O:U)(mx:Int)(p:St×Int×Int):af (Step (St×Int×Int) (St×Int×Int)):=
 (.aj (p.1.ch==95)
   (.ae (Step.go (aa O p.1,nv p.2.1 2,p.2.2)))
   (.aj (decide (p.1.ch>=mx))
     (.aj (decide (p.2.2<0))
       (.ae (Step.go (aa O p.1,nv p.2.1 1,lY p.1)))
       (.ae (Step.go (aa O p.1,nv p.2.1 1,p.2.2))))
     (.ae (Step.go (aa O p.1,nv p.2.1 1,p.2.2)))))
def yl(O:U)(mx:Int)(p:St×Int×Int):af (Step (St×Int×Int) (St×Int×Int)):=
 (.aj (aE p.1.ch) (vN O mx p) (.aj (p.1.ch==95) (vN O mx p) (.ae (Step.out p))))
def ym(A:Ad)(mx:Int)(p:St×Int×Int):E (SY A):=⟨⟨p.1,[.int .i64 p.2.2]⟩,[(0,.st 0),(2,.box 0),(6,.val (.int .i64 p.2.1)),(7,.val (.int .i32 mx))]⟩
def AV(A:Ad)(p:St×Int×Int):E (SY A):=⟨⟨p.1,[.int .i64 p.2.2]⟩,[(0,.st 0),(6,.val (.int .i64 p.2.1))]⟩
abbrev jY:Code:=a_ (aX (av Tryz.f94) 0)
abbrev sQ:Code:=a_ (aX (av Tryz.f94) 2)
def Kr:Ex->List Nat
 | .normal=>[0,2,6,7]
 |_=>[0,6]
theorem VQ(A:Ad)(mx:Int)(p:St×Int×Int):(az (OW A Tryz.f94.ntmps) jY (ym A mx p)).bind (fun xe=> .ae (xe.1,cU (Kr xe.1) xe.2))=
 (yl A.O mx p).bind fun s=> .ae (jW (ym A mx) (fun q=>(.exit 0,AV A q)) s):=by kernel_rfl
def Ks(O:U)(mx:Int)(p:St×Int):af (Step (St×Int) (St×Int)):=
 (.aj (p.1.ch==95)
   (.ae (Step.go (aa O p.1,nv p.2 2)))
   (.aj (decide (p.1.ch>=mx)) .fail (.ae (Step.go (aa O p.1,nv p.2 1)))))
def Ac(O:U)(mx:Int)(p:St×Int):af (Step (St×Int) (St×Int)):=
 (.aj (aE p.1.ch) (Ks O mx p) (.aj (p.1.ch==95) (Ks O mx p) (.ae (Step.out p))))
def CR(A:Ad)(mx:Int)(bx:List Value)(p:St×Int):E (SY A):=⟨⟨p.1,bx⟩,[(0,.st 0),(2,.val (.pointer none)),(6,.val (.int .i64 p.2)),(7,.val (.int .i32 mx))]⟩
def sR(A:Ad)(bx:List Value)(p:St×Int):E (SY A):=⟨⟨p.1,bx⟩,[(0,.st 0),(6,.val (.int .i64 p.2))]⟩
theorem VR(A:Ad)(mx:Int)(bx:List Value)(p:St×Int):(az (OW A Tryz.f94.ntmps) jY (CR A mx bx p)).bind (fun xe=> .ae (xe.1,cU (Kr xe.1) xe.2))=
 (Ac A.O mx p).bind fun s=> .ae (jW (CR A mx bx) (fun q=>(.exit 0,sR A bx q)) s):=by kernel_rfl
def Ae(O:U)(p:St×Int):af (Step (St×Int) (St×Int)):=
 (.aj (dj p.1.ch)
   (.aj (p.1.ch==95)
     (.ae (Step.go (aa O p.1,nv p.2 2)))
     (.ae (Step.go (aa O p.1,nv p.2 1))))
   (.aj (p.1.ch==95)
     (.aj (p.1.ch==95)
       (.ae (Step.go (aa O p.1,nv p.2 2)))
       (.ae (Step.go (aa O p.1,nv p.2 1))))
     (.ae (Step.out p))))
theorem VS(A:Ad)(bx:List Value)(p:St×Int):(az (OW A Tryz.f94.ntmps) sQ (sR A bx p)).bind (fun xe=> .ae (xe.1,cU [0,6] xe.2))=
 (Ae A.O p).bind fun s=> .ae (jW (sR A bx) (fun q=>(.exit 2,sR A bx q)) s):=by kernel_rfl
theorem jZ{c:Int}(h:aE c=true):48<=c∧c<=57:=by
 have h1:=Bool.and_eq_true_iff.1 h
 exact⟨of_decide_eq_true h1.1,of_decide_eq_true h1.2⟩
theorem mX{c:Int}(h:aE c=true):¬c= -1:=by have:=jZ h;omega
theorem sS{c:Int}(h:dj c=true):¬c= -1:=fun e=>by rw[e]at h;revert h;decide
def mY(O:U)(p:St×Int×Int):Nat:=left O p.1
def oF(O:U)(p:St×Int):Nat:=left O p.1
theorem IA(O:U)(mx:Int)(p:St×Int×Int):(yl O mx p).cg:=⟨⟨trivial,⟨trivial,trivial⟩,trivial⟩,⟨trivial,⟨trivial,trivial⟩,trivial⟩,trivial⟩
theorem IB(O:U)(mx:Int)(p:St×Int):(Ac O mx p).cg:=⟨⟨trivial,trivial,trivial⟩,⟨trivial,trivial,trivial⟩,trivial⟩
theorem IC(O:U)(p:St×Int):(Ae O p).cg:=⟨⟨trivial,trivial⟩,⟨trivial,trivial⟩,trivial⟩
theorem wP(O:U)(mx:Int)(p:St×Int×Int):(yl O mx p).aD fun s=>match s with
 | .go a'=>On O p.1 a'.1∧mY O a'<mY O p
 | .out q=>On O p.1 q.1:=by
 have key:¬p.1.ch= -1->(vN O mx p).aD fun s=>match s with
  | .go a'=>On O p.1 a'.1∧mY O a'<mY O p
  | .out q=>On O p.1 q.1:=fun h=>by
  have h1:On O p.1 (aa O p.1)∧left O (aa O p.1)<left O p.1:=⟨aR _ _,aQ O p.1 h⟩
  exact⟨fun _=>h1,fun _=>⟨fun _=>⟨fun _=>h1,fun _=>h1⟩,fun _=>h1⟩⟩
 exact⟨fun h=>key (mX h),fun _=>⟨fun h=>key (vL (by decide) h),fun _=>On.refl _ _⟩⟩
theorem wQ(O:U)(p:St×Int):(Ac O 58 p).aD fun s=>match s with
 | .go a'=>On O p.1 a'.1∧oF O a'<oF O p
 | .out q=>On O p.1 q.1:=by
 have h1:¬p.1.ch= -1->On O p.1 (aa O p.1)∧left O (aa O p.1)<left O p.1:=fun h=>⟨aR _ _,aQ O p.1 h⟩
 refine⟨fun h=>⟨fun _=>h1 (mX h),fun _=>⟨fun h2=> ?_,fun _=>h1 (mX h)⟩⟩,fun _=>⟨fun h=>⟨fun _=>h1 (vL (by decide) h),fun h2=>absurd h (by simp[h2])⟩,fun _=>On.refl _ _⟩⟩
 have h3:=jZ h
 have h4:p.1.ch>=58:=of_decide_eq_true h2
 exfalso;omega
theorem wR(O:U)(p:St×Int):(Ae O p).aD fun s=>match s with
 | .go a'=>On O p.1 a'.1∧oF O a'<oF O p
 | .out q=>On O p.1 q.1:=by
 have h1:¬p.1.ch= -1->On O p.1 (aa O p.1)∧left O (aa O p.1)<left O p.1:=fun h=>⟨aR _ _,aQ O p.1 h⟩
 exact⟨fun h=>⟨fun _=>h1 (sS h),fun _=>h1 (sS h)⟩,fun _=>⟨fun h=>⟨fun _=>h1 (vL (by decide) h),fun _=>h1 (vL (by decide) h)⟩,fun _=>On.refl _ _⟩⟩
def iW(O:U)(mx:Int)(p:St×Int×Int):St×Int×Int:=cC (yl O mx) (mY O) (mw,0,0) p
def cP(O:U)(p:St×Int):St×Int:=cC (Ac O 58) (oF O) (mw,0) p
def lh(O:U)(p:St×Int):St×Int:=cC (Ae O) (oF O) (mw,0) p
def QK(A:Ad)(e:E (SY A)):Option ((St×Int×Int)×Int):=match Ev.look e.tm 0,Ev.look e.tm 2,Ev.look e.tm 6,Ev.look e.tm 7,e.c.bx with
 | .st 0,.box 0,.val (.int .i64 d),.val (.int .i32 m),[.int .i64 v]=>some ((e.c.st,d,v),m)
 |_,_,_,_,_=>none
theorem VT{A:Ad}(e:E (SY A))(p:(St×Int×Int)×Int)(h:QK A e=some p):fF e (ym A p.2 p.1):=by
 unfold QK at h
 split at h
 ·rename_i h0 h2 h6 h7 hb
  simp only[Option.some.injEq]at h
  subst h
  exact q9 (by show(⟨e.c.st,_⟩:aq (SY A))=e.c;rw[←hb]) ⟨.inl h0,.inl h2,.inl h6,.inl h7,trivial⟩
 ·cases h
def QL(A:Ad)(e:E (SY A)):Option ((St×Int)×List Value):=match Ev.look e.tm 0,Ev.look e.tm 2,Ev.look e.tm 6,Ev.look e.tm 7 with
 | .st 0,.val (.pointer none),.val (.int .i64 d),.val (.int .i32 58)=>some ((e.c.st,d),e.c.bx)
 |_,_,_,_=>none
theorem VU{A:Ad}(e:E (SY A))(p:(St×Int)×List Value)(h:QL A e=some p):fF e (CR A 58 p.2 p.1):=by
 unfold QL at h
 split at h
 ·rename_i h0 h2 h6 h7
  simp only[Option.some.injEq]at h
  subst h
  exact q9 rfl ⟨.inl h0,.inl h2,.inl h6,.inl h7,trivial⟩
 ·cases h
def QM(A:Ad)(e:E (SY A)):Option ((St×Int)×List Value):=match Ev.look e.tm 0,Ev.look e.tm 6 with
 | .st 0,.val (.int .i64 d)=>some ((e.c.st,d),e.c.bx)
 |_,_=>none
theorem VV{A:Ad}(e:E (SY A))(p:(St×Int)×List Value)(h:QM A e=some p):fF e (sR A p.2 p.1):=by
 unfold QM at h
 split at h
 ·rename_i h0 h6
  simp only[Option.some.injEq]at h
  subst h
  exact q9 rfl ⟨.inl h0,.inl h6,trivial⟩
 ·cases h
theorem QN(A:Ad)(hA:A.Ok):cy (SY A) Tryz.f94.ntmps 0 (.loop jY) (cx (QK A) (fun p=> .ae (.normal,AV A (iW A.O p.2 p.1)))):=by
 refine eW ?_ VT
 refine At.par (F:=fun m p=>ym A m p) (g:=fun m p=> .ae (.normal,AV A (iW A.O m p))) (fun m=> ?_)
 have h1:=At.Iq (Y:=SY A) (κ:=PUnit) (id:=0) (F:=fun _ p=>ym A m p) (G:=fun _ q=>(.exit 0,AV A q)) (body:=yl A.O m) (mY A.O) (mw,0,0) (b:=jY) (N:=Tryz.f94.ntmps)
  (fun _=>At.same (db A hA) (bw A hA (fy A hA) Tryz.f94.ntmps [] 0) Kr (fun p=>VQ A m p)) (fun _ q=>by simp) (IA A.O m) (fun p=>an (wP A.O m p) (fun s h=>by cases s with
    |go a'=>exact h.2
    |out q=>trivial))
 exact⟨fun p=>h1.wp (p,⟨⟩),fun p=>h1.mono (p,⟨⟩)⟩
theorem QO(A:Ad)(hA:A.Ok):cy (SY A) Tryz.f94.ntmps 0 (.loop jY) (cx (QL A) (fun p=> .ae (.normal,sR A p.2 (cP A.O p.1)))):=by
 refine eW ?_ VU
 exact At.Iq (Y:=SY A) (id:=0) (F:=fun bx p=>CR A 58 bx p) (G:=fun bx q=>(.exit 0,sR A bx q)) (body:=Ac A.O 58) (oF A.O) (mw,0) (b:=jY) (N:=Tryz.f94.ntmps)
  (fun bx=>At.same (db A hA) (bw A hA (fy A hA) Tryz.f94.ntmps [] 0) Kr (fun p=>VR A 58 bx p)) (fun _ q=>by simp) (IB A.O 58) (fun p=>an (wQ A.O p) (fun s h=>by cases s with
    |go a'=>exact h.2
    |out q=>trivial))
theorem QP(A:Ad)(hA:A.Ok):cy (SY A) Tryz.f94.ntmps 2 (.loop sQ) (cx (QM A) (fun p=> .ae (.normal,sR A p.2 (lh A.O p.1)))):=by
 refine eW ?_ VV
 exact At.Iq (Y:=SY A) (id:=2) (F:=fun bx p=>sR A bx p) (G:=fun bx q=>(.exit 2,sR A bx q)) (body:=Ae A.O) (oF A.O) (mw,0) (b:=sQ) (N:=Tryz.f94.ntmps)
  (fun bx=>At.same (db A hA) (bw A hA (fy A hA) Tryz.f94.ntmps [] 0) (fun _=>[0,6]) (fun p=>VS A bx p)) (fun _ q=>by simp) (IC A.O) (fun p=>an (wR A.O p) (fun s h=>by cases s with
    |go a'=>exact h.2
    |out q=>trivial))
abbrev Kt(A:Ad):List (Nat×(E (SY A)->af (Ex×E (SY A)))):=[(0,cx (QK A) (fun p=> .ae (.normal,AV A (iW A.O p.2 p.1)))),(2,cx (QM A) (fun p=> .ae (.normal,sR A p.2 (lh A.O p.1))))]
abbrev Ku(A:Ad):List (Nat×(E (SY A)->af (Ex×E (SY A)))):=[(0,cx (QL A) (fun p=> .ae (.normal,sR A p.2 (cP A.O p.1))))]
theorem ID(A:Ad)(st:St)(b inv:Int):eh (iM A (o9 A) Tryz.f94.ntmps (Kt A) 0) Tryz.f94 [.st 0,.val (.int .i64 b),.box 0] ⟨st,[.int .i64 inv]⟩=
 (.aj (decide (b<=10))
   (.aY (cy (SY A) Tryz.f94.ntmps 0 (.loop jY) (cx (QK A) (fun p=> .ae (.normal,AV A (iW A.O p.2 p.1)))))
     (.ae (.val (.int .i64 (iW A.O (IntKind.i32.wrap (IntKind.i64.wrap (48+b))) (st,0,inv)).2.1),⟨(iW A.O (IntKind.i32.wrap (IntKind.i64.wrap (48+b))) (st,0,inv)).1,[.int .i64 (iW A.O (IntKind.i32.wrap (IntKind.i64.wrap (48+b))) (st,0,inv)).2.2]⟩)))
   (.aY (cy (SY A) Tryz.f94.ntmps 2 (.loop sQ) (cx (QM A) (fun p=> .ae (.normal,sR A p.2 (lh A.O p.1)))))
     (.ae (.val (.int .i64 (lh A.O (st,0)).2),⟨(lh A.O (st,0)).1,[.int .i64 inv]⟩)))):=by kernel_rfl
theorem IE(A:Ad)(st:St)(bx:List Value):eh (iM A (o9 A) Tryz.f94.ntmps (Ku A) 0) Tryz.f94 [.st 0,.val (.int .i64 10),.val (.pointer none)] ⟨st,bx⟩=
 (.aj (decide ((10:Int)<=10))
   (.aY (cy (SY A) Tryz.f94.ntmps 0 (.loop jY) (cx (QL A) (fun p=> .ae (.normal,sR A p.2 (cP A.O p.1)))))
     (.ae (.val (.int .i64 (cP A.O (st,0)).2),⟨(cP A.O (st,0)).1,bx⟩)))
   .fail):=by kernel_rfl
def bY(O:U)(b:Int)(st:St)(inv:Int):St×Int×Int:=
 if b<=10 then iW O (IntKind.i32.wrap (IntKind.i64.wrap (48+b))) (st,0,inv)else((lh O (st,0)).1,(lh O (st,0)).2,inv)
def aaU(A:Ad)(args:List SV)(c:aq (SY A)):af (SV×aq (SY A)):=
 match args,c.bx with
 |[.st 0,.val (.int .i64 b),.box 0],[.int .i64 inv]=> .ae (.val (.int .i64 (bY A.O b c.st inv).2.1),⟨(bY A.O b c.st inv).1,[.int .i64 (bY A.O b c.st inv).2.2]⟩)
 |[.st 0,.val (.int .i64 10),.val (.pointer none)],_=> .ae (.val (.int .i64 (cP A.O (c.st,0)).2),⟨(cP A.O (c.st,0)).1,c.bx⟩)
 |_,_=> .fail
theorem Kv{A:Ad}{f:FuncId}{G G1 G2:List SV->aq (SY A)->af (SV×aq (SY A))}(h1:fg (SY A) f #[] true G1)(h2:fg (SY A) f #[] true G2)(m1:gT G1)(m2:gT G2)
 (h:∀args c (Q:SV×aq (SY A)->Prop),(G args c).aD Q->(G1 args c).aD Q∨(G2 args c).aD Q):fg (SY A) f #[] true G∧gT G:=by
 refine⟨fun args c bl w bS Q cK hc hs=> ?_,fun args c Q hb hs=> ?_⟩
 ·rcases h args c Q hs with hs|hs
  ·exact h1 args c bl w bS Q cK hc hs
  ·exact h2 args c bl w bS Q cK hc hs
 ·rcases h args c Q hs with hs|hs
  ·exact m1 args c Q hb hs
  ·exact m2 args c Q hb hs
def ael(A:Ad):ej (SY A):=⟨94,#[],true,aaU A⟩
theorem VW(A:Ad)(hA:A.Ok):(ael A).Ok:=by
 have c1:=bw A hA (fy A hA) Tryz.f94.ntmps (Kt A) 0
 have c2:=bw A hA (fy A hA) Tryz.f94.ntmps (Ku A) 0
 have key:=Kv (A:=A) (f:=94) (G:=aaU A) (fM (db A hA) c1 Tryz.func94) (fM (db A hA) c2 Tryz.func94) (iT (db A hA) c1) (iT (db A hA) c2) (fun args c Q h=>by
  unfold aaU at h
  split at h
  ·rename_i b inv M7
   left
   obtain⟨st,bx⟩:=c
   have CS:bx=[.int .i64 inv]:=M7
   subst CS
   refine bB (ID A st b inv) ⟨fun h1=>⟨QN A hA,?_⟩,fun h1=>⟨QP A hA,?_⟩⟩
   ·have h2:bY A.O b st inv=_:=if_pos (of_decide_eq_true h1)
    simp only[h2]at h;exact h
   ·have h2:bY A.O b st inv=_:=if_neg (of_decide_eq_false h1)
    simp only[h2]at h;exact h
  ·right
   obtain⟨st,bx⟩:=c
   exact bB (IE A st bx) ⟨fun _=>⟨QO A hA,h⟩,fun h=>by cases h⟩
  ·exact h.elim)
 exact⟨fun args w=>by kernel_rfl,key.1,key.2⟩
def yp:U:=ByteArray.mk #[105,100,101,110,116,105,102,105,101,114,32,99,97,110,110,111,116,32,98,101,103,105,110,32,119,105,116,104,32,100,105,103,105,116,32,37,35,85]
def kI:U:=ByteArray.mk #[105,110,118,97,108,105,100,32,99,104,97,114,97,99,116,101,114,32,37,35,85,32,105,110,32,105,100,101,110,116,105,102,105,101,114]
def fY(st:St):Prop:= -2147483648<=st.ch∧st.ch<=2147483647
def cA(first:Bool)(st:St):Bool×St:=
 if isLetterU st.ch=true∨st.ch=95 then(true,st)
 else if isDigitU st.ch=true then(true,if first=true then error yp st else st)
 else if st.ch>=128 then(true,error kI st)else(false,st)
def QQ(A:Ad)(bx:List Value)(st ky:St):af (SV×aq (SY A)):=
 (.aY (-2147483648<=st.ch∧st.ch<=2147483647)
   (.aj (isLetterU st.ch)
     (.ae (.tt,⟨st,bx⟩))
     (.aj (st.ch==95)
       (.ae (.tt,⟨st,bx⟩))
       (.aY (-2147483648<=st.ch∧st.ch<=2147483647)
         (.aj (isDigitU st.ch)
           (.ae (.tt,⟨ky,bx⟩))
           (.aj (decide (st.ch>=128))
             (.ae (.tt,⟨error kI st,bx⟩))
             (.ae (.ff,⟨st,bx⟩))))))))
theorem QR(A:Ad)(st:St)(bx:List Value):eh (OW A Tryz.f64.ntmps) Tryz.f64 [.st 0,.ff] ⟨st,bx⟩=QQ A bx st st:=by kernel_rfl
theorem QS(A:Ad)(st:St)(bx:List Value):eh (OW A Tryz.f64.ntmps) Tryz.f64 [.st 0,.tt] ⟨st,bx⟩=QQ A bx st (error yp st):=by kernel_rfl
def aem(A:Ad)(args:List SV)(c:aq (SY A)):af (SV×aq (SY A)):=
 match args with
 |[.st 0,.ff]=> .aY (-2147483648<=c.st.ch∧c.st.ch<=2147483647) (.ae (.val (.bool (cA false c.st).1),⟨(cA false c.st).2,c.bx⟩))
 |[.st 0,.tt]=> .aY (-2147483648<=c.st.ch∧c.st.ch<=2147483647) (.ae (.val (.bool (cA true c.st).1),⟨(cA true c.st).2,c.bx⟩))
 |_=> .fail
def aen(A:Ad):ej (SY A):=⟨64,#[],true,aem A⟩
theorem AW{A:Ad}{bx:List Value}{st:St}{first:Bool}{Q:SV×aq (SY A)->Prop}(hc: -2147483648<=st.ch∧st.ch<=2147483647)(h:aaQ bx Q (cA first st)):(QQ A bx st (if first=true then error yp st else st)).aD (Ans Q):=by
 unfold cA at h
 refine⟨hc,fun h1=> ?_,fun h1=>⟨fun h2=> ?_,fun h2=>⟨hc,fun h3=> ?_,fun h3=>⟨fun h4=> ?_,fun h4=> ?_⟩⟩⟩⟩
 ·rw[if_pos (.inl h1)]at h;exact .inr ⟨_,rfl,h⟩
 ·rw[if_pos (.inr (by simpa using h2))]at h;exact .inr ⟨_,rfl,h⟩
 all_goals rw[if_neg (fun hh=>hh.elim (fun e=>by rw[h1]at e;cases e) (fun e=>by simp[e]at h2))]at h
 ·rw[if_pos h3]at h;exact .inr ⟨_,rfl,h⟩
 all_goals rw[if_neg (by simp[h3])]at h
 ·rw[if_pos (of_decide_eq_true h4)]at h;exact .inr ⟨_,rfl,h⟩
 ·rw[if_neg (of_decide_eq_false h4)]at h;exact .inr ⟨_,rfl,h⟩
theorem VX(A:Ad)(hA:A.Ok):(aen A).Ok:=by
 refine nR hA Tryz.func64 (fun args w=>by kernel_rfl) (C:=OW A Tryz.f64.ntmps) (bw A hA (fy A hA) Tryz.f64.ntmps [] 0) (fun args c Q h=> ?_)
 unfold aem at h
 split at h
 ·obtain⟨st,bx⟩:=c
  exact bB (QR A st bx) (AW (first:=false) h.1 h.2)
 ·obtain⟨st,bx⟩:=c
  exact bB (QS A st bx) (AW (first:=true) h.1 h.2)
 ·exact h.elim
theorem pb(O:U)(first:Bool)(st:St):On O st (cA first st).2:=by
 unfold cA
 split
 ·exact On.refl _ _
 ·split
  ·show On O st (if first=true then _ else _)
   split
   ·exact fN _ _ _
   ·exact On.refl _ _
  ·split
   ·exact fN _ _ _
   ·exact On.refl _ _
theorem VY:isLetterU (-1)=false:=by decide+kernel
theorem VZ:isDigitU (-1)=false:=by decide+kernel
theorem yq{first:Bool}{st:St}(h:(cA first st).1=true):¬st.ch= -1:=fun e=>by
 unfold cA at h
 rw[e,VY,VZ]at h
 rw[if_neg (by decide),if_neg (by decide),if_neg (by decide)]at h
 cases h
theorem pd(first:Bool)(st:St):(cA first st).2.ch=st.ch:=(by
 unfold cA
 split
 ·rfl
 ·split
  ·show(if first=true then _ else _:St).ch=_
   split<;>rfl
  ·split<;>rfl)
def mZ(s t:Int):Bool:=IntKind.u64.wrap ↑(BitVec.ofInt IntKind.u64.bits s&&&BitVec.ofInt IntKind.u64.bits (IntKind.u64.wrap (1*2^min t.toNat IntKind.u64.bits))).toNat != 0
theorem EU(A:Ad)(c:aq (SY A))(s t:Int):eh (OW A Tryz.f93.ntmps) Tryz.f93 [.val (.int .u64 s),.val (.int .u64 t)] c= .aY (¬t<0) (.ae (.val (.bool (mZ s t)),c)):=by kernel_rfl
def aeo(A:Ad)(args:List SV)(c:aq (SY A)):af (SV×aq (SY A)):=
 match args with
 |[.val (.int .u64 s),.val (.int .u64 t)]=> .aY (¬t<0) (.ae (.val (.bool (mZ s t)),c))
 |_=> .fail
def aep(A:Ad):ej (SY A):=⟨93,#[],true,aeo A⟩
theorem V0(A:Ad)(hA:A.Ok):(aep A).Ok:=by
 refine nR hA Tryz.func93 (fun args w=>by kernel_rfl) (C:=OW A Tryz.f93.ntmps) (bw A hA (fy A hA) Tryz.f93.ntmps [] 0) (fun args c Q h=> ?_)
 unfold aeo at h
 split at h
 ·exact bB (EU A c _ _) ⟨h.1,.inl h.2⟩
 ·exact h.elim
def yr(A:Ad):List (Nat×ej (SY A)):=(64,aen A)::(93,aep A)::(94,ael A)::(68,aei A)::(67,aej A)::(69,aek A)::o9 A
theorem m_(A:Ad)(hA:A.Ok):bI A (yr A):=by
 refine bI.cons ?_ (VX A hA) rfl rfl (fun h=>by cases h)
 refine bI.cons ?_ (V0 A hA) rfl rfl (fun h=>by cases h)
 refine bI.cons ?_ (VW A hA) rfl rfl (fun h=>by cases h)
 refine bI.cons ?_ (VM A hA) rfl rfl (fun h=>by cases h)
 refine bI.cons ?_ (VN A hA) rfl rfl (fun h=>by cases h)
 refine bI.cons ?_ (VP A hA) rfl rfl (fun h=>by cases h)
 exact fy A hA
abbrev cfG(A:Ad)(N:Nat):eS (SY A):=iM A (yr A) N [] 0
def qp(x:Int):Bool:=cj x||aE x
abbrev sU:Code:=a_ (aX (av Tryz.f65) 0)
abbrev wT:Code:=a_ (aX (av Tryz.f65) 2)
theorem aaV(A:Ad)(st:St)(bx:List Value):(az (cfG A Tryz.f65.ntmps) sU (kG A (st,bx))).bind (fun xe=> .ae (xe.1,cU [0] xe.2))=
 (.aj (cj st.ch) (.ae (.normal,kG A (aa A.O st,bx))) (.aj (aE st.ch) (.ae (.normal,kG A (aa A.O st,bx))) (.ae (.exit 0,kG A (st,bx))))):=by kernel_rfl
theorem aaW(A:Ad)(hA:A.Ok):At (SY A) Tryz.f65.ntmps (.block 0 (.loop sU)) (kG A) (fun p=> .ae (.normal,kG A (skip A.O qp p.1,p.2))):=by
 have h1:=ya (N:=Tryz.f65.ntmps) (id:=0) (b:=sU) hA qp (by decide+kernel) (κ:=PUnit) (fun _=>[(0,.st 0)]) (At.qB (db A hA) (bw A hA (m_ A hA) Tryz.f65.ntmps [] 0) (fun _=>[0]) (fun p Q hs=>by
  refine bB (aaV A p.1 p.2.1) ?_
  refine⟨fun h=> ?_,fun h=>⟨fun h2=> ?_,fun h2=> ?_⟩⟩
  ·rw[if_pos (by simp[qp,h])]at hs;exact hs
  ·rw[if_pos (by simp[qp,h2])]at hs;exact hs
  ·rw[if_neg (by simp[qp,h,h2])]at hs;exact hs))
 exact⟨fun p=>h1.wp (p.1,p.2,⟨⟩),fun p=>h1.mono (p.1,p.2,⟨⟩)⟩
def V1(O:U)(st:St):af (Step St St):=
 (.aY (-2147483648<=st.ch∧st.ch<=2147483647) (.aj (cA false st).1 (.ae (Step.go (aa O (cA false st).2))) (.ae (Step.out (cA false st).2))))
theorem aaX(A:Ad)(bx:List Value)(st:St):(az (cfG A Tryz.f65.ntmps) wT (kG A (st,bx))).bind (fun xe=> .ae (xe.1,cU [0] xe.2))=
 (V1 A.O st).bind fun s=> .ae (jW (fun st=>kG A (st,bx)) (fun st=>(.exit 2,kG A (st,bx))) s):=by kernel_rfl
theorem M8(O:U)(st:St):(V1 O st).cg:=⟨trivial,trivial⟩
theorem cq(O:U)(st:St):fY (aa O st):=by have:=AU O st;unfold fY;omega
theorem CT(O:U)(st:St)(h:fY st):(V1 O st).aD fun s=>match s with
 | .go a'=>fY a'∧On O st a'∧left O a'<left O st
 | .out q=>On O st q∧fY q:=by
 refine⟨h,fun h1=> ?_,fun _=>⟨pb _ _ _,by unfold fY;rw[pd];exact h⟩⟩
 have h2:=pb O false st
 have h3:¬(cA false st).2.ch= -1:=by rw[pd];exact yq h1
 exact⟨cq _ _,h2.trans (aR _ _),Nat.lt_of_lt_of_le (aQ O _ h3) h2.left⟩
def qq(O:U)(st:St):St:=cC (V1 O) (left O) mw st
theorem wU(O:U)(st:St)(h:fY st):On O st (qq O st)∧fY (qq O st):=by
 unfold qq
 refine cp (body:=V1 O) (μ:=left O) (fun a=>fY a∧On O st a) (P:=fun q=>On O st q∧fY q) (fun a ha=> ?_) st ⟨h,On.refl _ _⟩
 refine an (CT O a ha.1) (fun s hs=> ?_)
 cases s with
 |go a'=>exact⟨⟨hs.1,ha.2.trans hs.2.1⟩,hs.2.2⟩
 |out q=>exact⟨ha.2.trans hs.1,hs.2⟩
theorem V2(A:Ad)(hA:A.Ok):cy (SY A) Tryz.f65.ntmps 2 (.loop wT) (cx (G9 A) (fun p=> .aY (fY p.1) (.ae (.normal,kG A (qq A.O p.1,p.2))))):=by
 refine eW ?_ CE
 exact At.VH (Y:=SY A) (id:=2) (F:=fun bx st=>kG A (st,bx)) (G:=fun bx st=>(.exit 2,kG A (st,bx))) (body:=V1 A.O) (left A.O) mw fY (b:=wT) (N:=Tryz.f65.ntmps)
  (fun bx=>At.same (db A hA) (bw A hA (m_ A hA) Tryz.f65.ntmps [] 0) (fun _=>[0]) (fun p=>aaX A bx p)) (fun _ q=>by simp) (M8 A.O) (fun p hp=>an (CT A.O p hp) (fun s h=>by cases s with
    |go a'=>exact⟨h.1,h.2.2⟩
    |out q=>trivial))
theorem V3(A:Ad)(hA:A.Ok):cy (SY A) Tryz.f65.ntmps 0 (.loop sU) (cx (G9 A) (fun p=> .ae (.normal,kG A (skip A.O qp p.1,p.2)))):=eW (aaW A hA) CE
abbrev IF(A:Ad):List (Nat×(E (SY A)->af (Ex×E (SY A)))):=[(0,cx (G9 A) (fun p=> .ae (.normal,kG A (skip A.O qp p.1,p.2)))),(2,cx (G9 A) (fun p=> .aY (fY p.1) (.ae (.normal,kG A (qq A.O p.1,p.2)))))]
def cW(O:U)(st:St):St:=
 if 2<=(fG O st).size∧k_ (iI (fG O st))≠0∧(aH (k_ (iI (fG O st)))).toList=(fG O st).toList
 then{st with au:=mZ 2200168300544 (k_ (iI (fG O st)):Nat),tok:=(k_ (iI (fG O st)):Nat)}
 else{st with au:=true,lit:=fG O st,tok:=2}
def dV(O:U)(st:St):St:=cW O (if(skip O qp st).ch>=128 then qq O (skip O qp st)else skip O qp st)
def IG(A:Ad)(bx:List Value)(st:St):af (SV×aq (SY A)):=
 (.aY (st.b.isSome=true)
   (.aj (decide (((fG A.O st).size:Int)>=2))
     (.aY (2<=(fG A.O st).size)
       (.aj (((k_ (iI (fG A.O st)):Nat):Int) != 0)
         (.aY (22<=((k_ (iI (fG A.O st)):Nat):Int)∧((k_ (iI (fG A.O st)):Nat):Int)<=46)
           (.aj ((aH (((k_ (iI (fG A.O st)):Nat):Int)).toNat).toList==(fG A.O st).toList)
             (.aY (¬((k_ (iI (fG A.O st)):Nat):Int)<0)
               (.ae (unit,⟨{st with au:=mZ 2200168300544 (k_ (iI (fG A.O st)):Nat),tok:=(k_ (iI (fG A.O st)):Nat)},bx⟩)))
             (.ae (unit,⟨{st with au:=true,tok:=2,lit:=fG A.O st},bx⟩))))
         (.ae (unit,⟨{st with au:=true,tok:=2,lit:=fG A.O st},bx⟩))))
     (.ae (unit,⟨{st with au:=true,tok:=2,lit:=fG A.O st},bx⟩))))
theorem QT(A:Ad)(st:St)(bx:List Value):eh (iM A (yr A) Tryz.f65.ntmps (IF A) 0) Tryz.f65 [.st 0] ⟨st,bx⟩=
 (.aY (cy (SY A) Tryz.f65.ntmps 0 (.loop sU) (cx (G9 A) (fun p=> .ae (.normal,kG A (skip A.O qp p.1,p.2)))))
   (.aj (decide ((skip A.O qp st).ch>=128))
     (.aY (cy (SY A) Tryz.f65.ntmps 2 (.loop wT) (cx (G9 A) (fun p=> .aY (fY p.1) (.ae (.normal,kG A (qq A.O p.1,p.2))))))
       (.aY (fY (skip A.O qp st)) (IG A bx (qq A.O (skip A.O qp st)))))
     (IG A bx (skip A.O qp st)))):=by kernel_rfl
theorem AX(h:Int):∀(n k:Nat),nN h n k=0∨(k<=nN h n k∧nN h n k<k+n)
 |0,k=> .inl rfl
 |n+1,k=>by
  simp only[nN]
  split
  ·exact .inr ⟨Nat.le_refl _,by omega⟩
  ·rcases AX h n (k+1)with h1|h1
   ·exact .inl h1
   ·exact .inr ⟨by omega,by omega⟩
theorem CU(h:Int)(h0:k_ h≠0):22<=k_ h∧k_ h<=46:=by
 rcases AX h 25 22 with h1|h1
 ·exact absurd h1 h0
 ·unfold k_;omega
theorem AY{A:Ad}{bx:List Value}{st:St}{Q:SV×aq (SY A)->Prop}(hb:st.b.isSome=true)(h:Q (unit,⟨cW A.O st,bx⟩)):(IG A bx st).aD Q:=by
 unfold cW at h
 refine⟨hb,fun h1=>⟨by have:=of_decide_eq_true h1;omega,fun h2=> ?_,fun h2=> ?_⟩,fun h1=> ?_⟩
 ·have h3:k_ (iI (fG A.O st))≠0:=fun e=>by rw[e]at h2;cases h2
  have h4:=CU _ h3
  refine⟨by omega,fun h5=>⟨by omega,?_⟩,fun h5=> ?_⟩
  ·rw[if_pos ⟨by have:=of_decide_eq_true h1;omega,h3,by simpa using h5⟩]at h;exact h
  ·rw[if_neg (fun hh=>by have:=hh.2.2;rw[Int.toNat_natCast]at h5;simp[this]at h5)]at h;exact h
 ·rw[if_neg (fun hh=>hh.2.1 (by simpa using h2))]at h;exact h
 ·rw[if_neg (fun hh=>by have:=of_decide_eq_false h1;have:=hh.1;omega)]at h;exact h
theorem pS{O:U}{c:Int->Bool}{st:St}(h:fY st):fY (skip O c st):=sE O c (P:=fY) (fun s _ _=>cq O s) st h
def aeq(A:Ad):ej (SY A):=⟨65,#[],true,oX A (fun st=>fY st∧st.b.isSome=true) (dV A.O)⟩
theorem V4(A:Ad)(hA:A.Ok):(aeq A).Ok:=by
 refine nR hA Tryz.func65 (fun args w=>by kernel_rfl) (C:=iM A (yr A) Tryz.f65.ntmps (IF A) 0) (bw A hA (m_ A hA) Tryz.f65.ntmps (IF A) 0) (fun args c Q h=> ?_)
 unfold oX at h
 split at h
 ·obtain⟨st,bx⟩:=c
  obtain⟨⟨hc,hb⟩,hq⟩:=h
  have rQ:fY (skip A.O qp st):=pS hc
  have fX:(skip A.O qp st).b.isSome=true:=by rw[(dq A.O qp st).b];exact hb
  have rP:Q (unit,⟨dV A.O st,bx⟩):=hq
  unfold dV at rP
  refine bB (QT A st bx) ⟨V3 A hA,fun h1=>⟨V2 A hA,rQ,?_⟩,fun h1=> ?_⟩
  ·rw[if_pos (of_decide_eq_true h1)]at rP
   exact AY (by rw[(wU A.O _ rQ).1.b];exact fX) (.inl rP)
  ·rw[if_neg (of_decide_eq_false h1)]at rP
   exact AY fX (.inl rP)
 ·exact h.elim
def jn(s:U)(i:Int):Int:=IntKind.i32.wrap ↑(s.get! i.toNat).toNat
def EV(s:U)(x1:Int)(p:Int×Int):af (Step (Int×Int) (Int×Option Int)):=
 (.aj (decide (p.2< ↑s.size))
   (.aY (0<=p.2∧p.2.toNat<s.size)
     (.aj (jn s p.2==95)
       (.aj (p.1 != 48)
         (.ae (Step.out (0,some p.2)))
         (.ae (Step.go (jn s p.2,IntKind.i64.wrap (p.2+1)))))
       (.aj (aE (jn s p.2))
         (.ae (Step.go (48,IntKind.i64.wrap (p.2+1))))
         (.aj (x1==120)
           (.aj (dj (jn s p.2))
             (.ae (Step.go (48,IntKind.i64.wrap (p.2+1))))
             (.aj (p.1==95)
               (.ae (Step.out (0,some (IntKind.i64.wrap (p.2-1)))))
               (.ae (Step.go (46,IntKind.i64.wrap (p.2+1))))))
           (.aj (p.1==95)
             (.ae (Step.out (0,some (IntKind.i64.wrap (p.2-1)))))
             (.ae (Step.go (46,IntKind.i64.wrap (p.2+1)))))))))
   (.ae (Step.out (p.1,none))))
def ys(A:Ad)(s:U)(x1:Int)(c:aq (SY A))(p:Int×Int):E (SY A):=⟨c,[(0,.val (.string s)),(3,.val (.int .i32 x1)),(4,.val (.int .i32 p.1)),(5,.val (.int .i64 p.2))]⟩
def IH(A:Ad)(s:U)(c:aq (SY A))(q:Int×Option Int):Ex×E (SY A):=match q with
 |(d,some r)=>(.ret,⟨c,[(2,.val (.int .i64 r))]⟩)
 |(d,none)=>(.exit 0,⟨c,[(0,.val (.string s)),(4,.val (.int .i32 d))]⟩)
def Zn:Ex->List Nat
 | .normal=>[0,3,4,5]
 | .ret=>[2]
 |_=>[0,4]
abbrev sV:Code:=a_ (aX (av Tryz.f98) 0)
theorem aaY(A:Ad)(s:U)(x1:Int)(c:aq (SY A))(p:Int×Int):(az (cfG A Tryz.f98.ntmps) sV (ys A s x1 c p)).bind (fun xe=> .ae (xe.1,cU (Zn xe.1) xe.2))=
 (EV s x1 p).bind fun st=> .ae (jW (ys A s x1 c) (IH A s c) st):=by kernel_rfl
def II(s:U)(p:Int×Int):Nat:=s.size-p.2.toNat
def yu(s:U)(p:Int×Int):Prop:=s.size<=4611686018427387904∧0<=p.2
theorem IJ(s:U)(x1:Int)(p:Int×Int):(EV s x1 p).cg:=⟨⟨⟨trivial,trivial⟩,trivial,⟨trivial,trivial,trivial⟩,trivial,trivial⟩,trivial⟩
theorem Kw(s:U)(x1:Int)(p:Int×Int)(hI:yu s p):(EV s x1 p).aD fun st=>match st with
 | .go a'=>yu s a'∧II s a'<II s p
 | .out _=>True:=by
 obtain⟨h1,h2⟩:=hI
 refine⟨fun h3=> ?_,fun _=>trivial⟩
 have h4:p.2<(s.size:Int):=of_decide_eq_true h3
 have h5:=aG (n:=p.2+1) (by omega) (by omega)
 have key:∀d:Int,yu s (d,IntKind.i64.wrap (p.2+1))∧II s (d,IntKind.i64.wrap (p.2+1))<II s p:=fun d=>by
  rw[h5]
  refine⟨⟨h1,by show 0<=p.2+1;omega⟩,?_⟩
  show s.size-(p.2+1).toNat<s.size-p.2.toNat
  omega
 exact⟨⟨h2,by omega⟩,fun _=>⟨fun _=>trivial,fun _=>key _⟩,fun _=>⟨fun _=>key _,fun _=>⟨fun _=>⟨fun _=>key _,fun _=>⟨fun _=>trivial,fun _=>key _⟩⟩,fun _=>⟨fun _=>trivial,fun _=>key _⟩⟩⟩⟩
def fO(s:U)(x1:Int)(p:Int×Int):Int×Option Int:=cC (EV s x1) (II s) (0,none) p
def yv(A:Ad)(e:E (SY A)):Option (((Int×Int)×aq (SY A))×(U×Int)):=match Ev.look e.tm 0,Ev.look e.tm 3,Ev.look e.tm 4,Ev.look e.tm 5 with
 | .val (.string s),.val (.int .i32 x),.val (.int .i32 d),.val (.int .i64 i)=>some (((d,i),e.c),(s,x))
 |_,_,_,_=>none
theorem QV{A:Ad}(e:E (SY A))(p:((Int×Int)×aq (SY A))×(U×Int))(h:yv A e=some p):fF e (ys A p.2.1 p.2.2 p.1.2 p.1.1):=by
 unfold yv at h
 split at h
 ·rename_i h0 h3 h4 h5
  simp only[Option.some.injEq]at h
  subst h
  exact q9 rfl ⟨.inl h0,.inl h3,.inl h4,.inl h5,trivial⟩
 ·cases h
def M9(A:Ad)(p:((Int×Int)×aq (SY A))×(U×Int)):af (Ex×E (SY A)):=
 .aY (yu p.2.1 p.1.1) (.aj (fO p.2.1 p.2.2 p.1.1).2.isSome (.ae (.ret,⟨p.1.2,[(2,.val (.int .i64 ((fO p.2.1 p.2.2 p.1.1).2.getD 0)))]⟩)) (.ae (.normal,⟨p.1.2,[(0,.val (.string p.2.1)),(4,.val (.int .i32 (fO p.2.1 p.2.2 p.1.1).1))]⟩)))
theorem V5(A:Ad)(hA:A.Ok):cy (SY A) Tryz.f98.ntmps 0 (.loop sV) (cx (yv A) (M9 A)):=by
 refine eW (F:=fun(p:((Int×Int)×aq (SY A))×(U×Int))=>ys A p.2.1 p.2.2 p.1.2 p.1.1) ?_ QV
 have h1:∀k:U×Int,At (SY A) Tryz.f98.ntmps (.block 0 (.loop sV)) (fun p:(Int×Int)×aq (SY A)=>ys A k.1 k.2 p.2 p.1) (fun p=> .aY (yu k.1 p.1) (.ae (iq 0 (IH A k.1 p.2 (fO k.1 k.2 p.1))))):=fun k=>
  At.VH (Y:=SY A) (id:=0) (F:=fun c p=>ys A k.1 k.2 c p) (G:=fun c q=>IH A k.1 c q) (body:=EV k.1 k.2) (II k.1) (0,none) (yu k.1) (b:=sV) (N:=Tryz.f98.ntmps)
   (fun c=>At.same (db A hA) (bw A hA (m_ A hA) Tryz.f98.ntmps [] 0) Zn (fun p=>aaY A k.1 k.2 c p)) (fun c q=>by obtain⟨d,_|r⟩:=q<;>simp[IH]) (IJ k.1 k.2) (Kw k.1 k.2)
 have h2:=At.par (F:=fun(k:U×Int) (p:(Int×Int)×aq (SY A))=>ys A k.1 k.2 p.2 p.1) (g:=fun k (p:(Int×Int)×aq (SY A))=> .aY (yu k.1 p.1) (.ae (iq 0 (IH A k.1 p.2 (fO k.1 k.2 p.1))))) h1
 refine At.refine (g':=M9 A) h2 (fun p Q hs=>⟨p,fF.refl _,hs.1,?_⟩)
 have hs:=hs.2
 show∃e',fF (iq 0 (IH A p.2.1 p.1.2 (fO p.2.1 p.2.2 p.1.1))).2 e'∧Q ((iq 0 (IH A p.2.1 p.1.2 (fO p.2.1 p.2.2 p.1.1))).1,e')
 generalize fO p.2.1 p.2.2 p.1.1=q at*
 obtain⟨d,_|r⟩:=q
 ·exact⟨_,fF.refl _,hs.2 rfl⟩
 ·exact⟨_,fF.refl _,hs.1 rfl⟩
def my(s:U)(r:Int×Option Int):Int:=match r.2 with
 |some x=>x
 |none=>if r.1=95 then IntKind.i64.wrap ((s.size:Int)-1)else -1
def bC(s:U):Int:=
 if 2<=s.size∧(s.get! 0).toNat=48 then
  (if ay (jn s 1)=120∨ay (jn s 1)=111∨ay (jn s 1)=98 then my s (fO s (ay (jn s 1)) (48,2))else my s (fO s (ay (jn s 1)) (46,0)))
 else my s (fO s 32 (46,0))
def nU(A:Ad)(c:aq (SY A))(s:U)(x1:Int)(p:Int×Int):af (SV×aq (SY A)):=
 (.aY (cy (SY A) Tryz.f98.ntmps 0 (.loop sV) (cx (yv A) (M9 A)))
   (.aY (yu s p)
     (.aj (fO s x1 p).2.isSome
       (.ae (.val (.int .i64 ((fO s x1 p).2.getD 0)),c))
       (.aj ((fO s x1 p).1==95)
         (.ae (.val (.int .i64 (IntKind.i64.wrap ((s.size:Int)-1))),c))
         (.ae (.val (.int .i64 (-1)),c))))))
theorem Af(A:Ad)(c:aq (SY A))(s:U):eh (iM A (yr A) Tryz.f98.ntmps [(0,cx (yv A) (M9 A))] 0) Tryz.f98 [.val (.string s)] c=
 (.aj (decide ((s.size:Int)>=2))
   (.aY ((0:Int)<=0∧Int.toNat 0<s.size)
     (.aj (((s.get! (Int.toNat 0)).toNat:Int)==48)
       (.aY ((0:Int)<=1∧Int.toNat 1<s.size)
         (.aj (ay (jn s 1)==120) (nU A c s (ay (jn s 1)) (48,2))
           (.aj (ay (jn s 1)==111) (nU A c s (ay (jn s 1)) (48,2))
             (.aj (ay (jn s 1)==98) (nU A c s (ay (jn s 1)) (48,2))
               (nU A c s (ay (jn s 1)) (46,0))))))
       (nU A c s 32 (46,0))))
   (nU A c s 32 (46,0))):=by kernel_rfl
theorem jz{A:Ad}(hA:A.Ok){c:aq (SY A)}{s:U}{x1:Int}{p:Int×Int}{Q:SV×aq (SY A)->Prop}(hI:yu s p)(h:Q (.val (.int .i64 (my s (fO s x1 p))),c)):(nU A c s x1 p).aD Q:=by
 refine⟨V5 A hA,hI,?_⟩
 generalize fO s x1 p=r at*
 obtain⟨d,_|x⟩:=r
 ·refine⟨fun h1=>(by cases h1),fun _=>⟨fun h1=> ?_,fun h1=> ?_⟩⟩
  ·have h2:my s (d,none)=IntKind.i64.wrap ((s.size:Int)-1):=if_pos (by simpa using h1)
   rw[h2]at h;exact h
  ·have h2:my s (d,none)= -1:=if_neg (by simpa using h1)
   rw[h2]at h;exact h
 ·exact⟨fun _=>h,fun h1=>by cases h1⟩
def aer(A:Ad)(args:List SV)(c:aq (SY A)):af (SV×aq (SY A)):=
 match args with
 |[.val (.string s)]=> .aY (s.size<=4611686018427387904) (.ae (.val (.int .i64 (bC s)),c))
 |_=> .fail
def aes(A:Ad):ej (SY A):=⟨98,#[],true,aer A⟩
theorem V6(A:Ad)(hA:A.Ok):(aes A).Ok:=by
 refine nR hA Tryz.func98 (fun args w=>by kernel_rfl) (C:=iM A (yr A) Tryz.f98.ntmps [(0,cx (yv A) (M9 A))] 0) (bw A hA (m_ A hA) Tryz.f98.ntmps [(0,cx (yv A) (M9 A))] 0) (fun args c Q h=> ?_)
 unfold aer at h
 split at h
 ·rename_i s
  obtain⟨hs,hq⟩:=h
  have rP:Ans Q (.val (.int .i64 (bC s)),c):= .inl hq
  unfold bC at rP
  refine bB (Af A c s) ⟨fun h1=>⟨⟨Int.le_refl _,by have:=of_decide_eq_true h1;show 0<s.size;omega⟩,fun h2=>⟨⟨by decide,by have:=of_decide_eq_true h1;show 1<s.size;omega⟩,fun h3=> ?_,fun h3=>⟨fun h4=> ?_,fun h4=>⟨fun h5=> ?_,fun h5=> ?_⟩⟩⟩,fun h2=> ?_⟩,fun h1=> ?_⟩
  rotate_left 4
  ·rw[if_neg (fun h=>by
    have h3:=h.2
    simp[h3]at h2)]at rP
   exact jz hA ⟨hs,by decide⟩ rP
  ·rw[if_neg (fun h=>by have:=of_decide_eq_false h1;have:=h.1;omega)]at rP
   exact jz hA ⟨hs,by decide⟩ rP
  all_goals
   have h20:(s.get! 0).toNat=48:=by
    have:((s.get! (Int.toNat 0)).toNat:Int)=48:=by simpa using h2
    have e:Int.toNat 0=0:=rfl
    rw[e]at this
    omega
   rw[if_pos ⟨by have:=of_decide_eq_true h1;omega,h20⟩]at rP
  ·rw[if_pos (.inl (by simpa using h3))]at rP;exact jz hA ⟨hs,by show(0:Int)<=2;decide⟩ rP
  ·rw[if_pos (.inr (.inl (by simpa using h4)))]at rP;exact jz hA ⟨hs,by show(0:Int)<=2;decide⟩ rP
  ·rw[if_pos (.inr (.inr (by simpa using h5)))]at rP;exact jz hA ⟨hs,by show(0:Int)<=2;decide⟩ rP
  ·rw[if_neg (fun h=>by rcases h with h|h|h<;>simp_all)]at rP;exact jz hA ⟨hs,by decide⟩ rP
 ·exact h.elim
def Kx(A:Ad):List (Nat×ej (SY A)):=(98,aes A)::(65,aeq A)::yr A
theorem gl(A:Ad)(hA:A.Ok):bI A (Kx A):=by
 refine bI.cons ?_ (V6 A hA) rfl rfl (fun h=>by cases h)
 refine bI.cons ?_ (V4 A hA) rfl rfl (fun h=>by cases h)
 exact m_ A hA
abbrev IK(A:Ad)(N:Nat):eS (SY A):=iM A (Kx A) N [] 0
structure bh where
 st:St
 ok:Bool
 kind:Int
 base:Int
 pre:Int
 ky:Int
 inv:Int
 seen:Bool
def eu(A:Ad)(s:bh):E (SY A):=⟨⟨s.st,[.int .i64 s.inv]⟩,[(0,.st 0),(1,.val (.bool s.seen)),(4,.val (.bool s.ok)),(5,.val (.int .u8 s.kind)),(6,.val (.int .i64 s.base)),(7,.val (.int .i32 s.pre)),(8,.val (.int .i64 s.ky)),(9,.box 0)]⟩
def QW(A:Ad)(e:E (SY A)):Option bh:=match e.c.bx,Ev.look e.tm 0,pO (Ev.look e.tm 1),pO (Ev.look e.tm 4),Ev.look e.tm 5,Ev.look e.tm 6,Ev.look e.tm 7,Ev.look e.tm 8,Ev.look e.tm 9 with
 |[.int .i64 inv],.st 0,.val (.bool seen),.val (.bool ok),.val (.int .u8 kind),.val (.int .i64 base),.val (.int .i32 pre),.val (.int .i64 ky),.box 0=>some ⟨e.c.st,ok,kind,base,pre,ky,inv,seen⟩
 |_,_,_,_,_,_,_,_,_=>none
theorem QX{A:Ad}(e:E (SY A))(s:bh)(h:QW A e=some s):fF e (eu A s):=by
 have pl:∀v b,pO v= .val (.bool b)->v= .val (.bool b)∨∃u,iE v=some u∧SV.val (.bool b)= .val u:=by
  intro v b h
  unfold pO at h
  split at h
  ·rename_i u hu;exact .inr ⟨u,hu,h.symm⟩
  ·exact .inl h
 unfold QW at h
 split at h
 ·rename_i hb h0 h1 h4 h5 h6 h7 h8 h9
  simp only[Option.some.injEq]at h
  subst h
  exact q9 (by show(⟨e.c.st,_⟩:aq (SY A))=e.c;rw[←hb]) ⟨.inl h0,pl _ _ h1,pl _ _ h4,.inl h5,.inl h6,.inl h7,.inl h8,.inl h9,trivial⟩
 ·cases h
abbrev cu:Code:=av Tryz.f66
def CV(A:Ad)(p:bh×Int):E (SY A):=⟨⟨p.1.st,[.int .i64 p.1.inv]⟩,[(0,.st 0),(1,.val (.bool p.1.seen)),(4,.val (.bool p.1.ok)),(5,.val (.int .u8 p.1.kind)),(6,.val (.int .i64 p.1.base)),(7,.val (.int .i32 p.1.pre)),(8,.val (.int .i64 p.1.ky)),(9,.box 0),(10,.val (.int .i32 p.2))]⟩
def wV(A:Ad)(e:E (SY A)):Option (bh×Int):=match QW A e,Ev.look e.tm 10 with
 |some s,.val (.int .i32 x)=>some (s,x)
 |_,_=>none
theorem IL{A:Ad}(e:E (SY A))(p:bh×Int)(h:wV A e=some p):fF e (CV A p):=by
 unfold wV at h
 split at h
 ·rename_i s x hs hx
  simp only[Option.some.injEq]at h
  subst h
  have h1:=QX e s hs
  refine⟨h1.1,fun i=> ?_⟩
  have hl:Ev.look (CV A (s,x)).tm i=if i=10 then .val (.int .i32 x)else Ev.look (eu A s).tm i:=by
   by_cases hi:i=10
   ·subst hi;rw[if_pos rfl];rfl
   ·rw[if_neg hi]
    show Ev.look [(0,SV.st 0),(1,_),(4,_),(5,_),(6,_),(7,_),(8,_),(9,_),(10,_)] i=Ev.look [(0,SV.st 0),(1,_),(4,_),(5,_),(6,_),(7,_),(8,_),(9,_)] i
    simp only[aF,if_neg hi]
  rw[hl]
  by_cases hi:i=10
  ·rw[if_pos hi,hi];exact .inr (.inl hx.symm)
  ·rw[if_neg hi];exact h1.2 i
 ·cases h
def yw:U:=ByteArray.mk #[37,113,32,101,120,112,111,110,101,110,116,32,114,101,113,117,105,114,101,115,32,100,101,99,105,109,97,108,32,109,97,110,116,105,115,115,97]
def yx:U:=ByteArray.mk #[37,113,32,101,120,112,111,110,101,110,116,32,114,101,113,117,105,114,101,115,32,104,101,120,97,100,101,99,105,109,97,108,32,109,97,110,116,105,115,115,97]
def fe(p:bh×Int):bh:=
 if p.2=101∧p.1.pre≠0∧p.1.pre≠48 then{p.1 with st:=error yw p.1.st,ok:=false}
 else if p.2=112∧p.1.pre≠120 then{p.1 with st:=error yx p.1.st,ok:=false}else p.1
def wW(p:bh×Int):af bh:= .aj (p.2==112) (.aj (p.1.pre != 120) (.ae {p.1 with st:=error yx p.1.st,ok:=false}) (.ae p.1)) (.ae p.1)
def Ky(p:bh×Int):af bh:= .aj (p.2==101) (.aj (p.1.pre != 0) (.aj (p.1.pre != 48) (.ae {p.1 with st:=error yw p.1.st,ok:=false}) (wW p)) (wW p)) (wW p)
abbrev nV:Code:=aX cu 1
theorem M_(A:Ad)(p:bh×Int):(az (IK A Tryz.f66.ntmps) (.block 1 nV) (CV A p)).bind (fun xe=> .ae (xe.1,cU [0,1,4,5,6,7,8,9] xe.2))=(Ky p).bind fun s=> .ae (.normal,eu A s):=by kernel_rfl
theorem IM{p:bh×Int}{Q:bh->Prop}(h:Q (fe p)):(Ky p).aD Q:=by
 unfold fe at h
 have h2:¬(p.2=101∧p.1.pre≠0∧p.1.pre≠48)->(wW p).aD Q:=fun hn=>by
  rw[if_neg hn]at h
  refine⟨fun h1=>⟨fun h2=> ?_,fun h2=> ?_⟩,fun h1=> ?_⟩
  ·rw[if_pos ⟨by simpa using h1,by simpa using h2⟩]at h;exact h
  ·rw[if_neg (fun hh=>hh.2 (by simpa using h2))]at h;exact h
  ·rw[if_neg (fun hh=>by simp[hh.1]at h1)]at h;exact h
 refine⟨fun h1=>⟨fun h3=>⟨fun h4=> ?_,fun h4=>h2 (fun hh=>hh.2.2 (by simpa using h4))⟩,fun h3=>h2 (fun hh=>hh.2.1 (by simpa using h3))⟩,fun h1=>h2 (fun hh=>by simp[hh.1]at h1)⟩
 rw[if_pos ⟨by simpa using h1,by simpa using h3,by simpa using h4⟩]at h;exact h
theorem V7(A:Ad)(hA:A.Ok):cy (SY A) Tryz.f66.ntmps 1 nV (cx (wV A) (fun p=> .ae (.normal,eu A (fe p)))):=by
 refine eW ?_ IL
 refine At.qB (db A hA) (bw A hA (gl A hA) Tryz.f66.ntmps [] 0) (fun _=>[0,1,4,5,6,7,8,9]) (fun p Q hs=> ?_)
 refine bB (M_ A p) ?_
 rw[ax]
 exact IM (Q:=fun s=>Q (.normal,eu A s)) hs
theorem yy(n:Int):u64 n=n%18446744073709551616:=by
 show IntKind.u64.wrap n=_
 simp[IntKind.wrap,IntKind.bits,IntKind.signed]
structure aet(O:U)(p:Nat)(aM:Int)(R:Rd):Prop where
 ge:p+R.bD<=R.p
 le:R.p<=O.size
 aM:R.aM=u64 (aM+((R.p-R.bD-p:Nat):Int))
 w:R.ch≠ -1->1<=R.bD
theorem AZ(O:U)(line:Int):∀(f:Nat) (ao:Bool) (p:Nat) (aM:Int) (ns:List e_),p<=O.size->u64 aM=aM->aet O p aM (ak O line f ao p aM ns)
 |0,_,p,aM,_,h,hc=>⟨by simp[ak],by simp[ak,h],by simp[ak,hc],by simp[ak]⟩
 |f+1,ao,p,aM,ns,h,hc=>by
  have step:∀(w:Nat) (b:Bool) (ns:List e_),p+w<=O.size->aet O p aM (ak O line f b (p+w) (u64 (aM+w)) ns):=fun w b ns hw=>by
   obtain⟨h1,h2,h3,h4⟩:=AZ O line f b (p+w) (u64 (aM+w)) ns hw (by simp only[yy];omega)
   refine⟨by omega,h2,?_,h4⟩
   rw[h3]
   generalize(ak O line f b (p+w) (u64 (aM+w)) ns)=R at*
   simp only[yy]
   have:((R.p-R.bD-p:Nat):Int)=((R.p-R.bD-(p+w):Nat):Int)+w:=by omega
   rw[this]
   omega
  by_cases hp:p<O.size
  ·have d1:=gz O p
   have d2:=km O p hp
   simp only[ak,if_pos hp]
   split
   ·split
    ·exact step 1 false _ (by omega)
    ·exact⟨by simp,by simp only;omega,by simp only;rw[show p+1-1-p=0 from by omega];simp[hc],fun _=>by simp⟩
   ·split
    ·exact step 1 false _ (by omega)
    ·split
     ·exact step _ false _ d2
     ·exact⟨by simp,d2,by simp only;rw[show p+(Utf8.decode O p).2-(Utf8.decode O p).2-p=0 from by omega];simp[hc],fun _=>d1.1⟩
  ·simp only[ak,if_neg hp]
   exact⟨by simp,h,by simp[hc],by simp⟩
def off(st:St):Nat:=st.p-st.bD-st.b.getD 0
structure gV(O:U)(st:St):Prop where
 b:st.b.isSome=true
 le:st.b.getD 0<=st.p-st.bD
 w:st.bD<=st.p
 n:st.p<=O.size
 sz:O.size<=2048
 aM:u64 (u64 (1+st.aL)-st.aM)=(off st:Int)
 pos:st.ch≠ -1->1<=st.bD
theorem gV.next{O:U}{st:St}(h:gV O st)(hc:st.ch≠10):gV O (aa O st)∧off st<=off (aa O st)∧(st.ch≠ -1->off st<off (aa O st)):=by
 have hr:=AZ O (aB st) (O.size+1) st.ao st.p (aS st) st.ab h.n (by unfold aS;rw[if_neg hc];simp only[yy];omega)
 have hle:=h.le;have hw:=h.w;have V8:=h.aM;have sC:=h.pos
 have e1:(aa O st).p=(ak O (aB st) (O.size+1) st.ao st.p (aS st) st.ab).p:=rfl
 have e2:(aa O st).bD=(ak O (aB st) (O.size+1) st.ao st.p (aS st) st.ab).bD:=rfl
 have e3:(aa O st).aL=(ak O (aB st) (O.size+1) st.ao st.p (aS st) st.ab).aM:=rfl
 have e4:(aa O st).b=st.b:=rfl
 have e5:(aa O st).aM=st.aM:=rfl
 have e6:(aa O st).ch=(ak O (aB st) (O.size+1) st.ao st.p (aS st) st.ab).ch:=rfl
 generalize ak O (aB st) (O.size+1) st.ao st.p (aS st) st.ab=R at*
 obtain⟨r1,r2,r3,r4⟩:=hr
 have o1:off (aa O st)=off st+(st.bD+(R.p-R.bD-st.p)):=by
  unfold off;rw[e1,e2,e4];omega
 refine⟨⟨by rw[e4];exact h.b,by rw[e4,e1,e2];omega,by rw[e1,e2];omega,by rw[e1];exact r2,h.sz,?_,by rw[e6,e2];exact r4⟩,by omega,fun dH=>by have:=sC dH;omega⟩
 rw[e3,e5,r3,o1]
 unfold aS
 rw[if_neg hc]
 simp only[yy]at V8⊢
 have hs:=h.sz;have hn:=h.n
 have:off st<=2048:=by unfold off;omega
 have:st.bD+(R.p-R.bD-st.p)<=2048+2048:=by omega
 omega
theorem gV.lY{O:U}{st:St}(h:gV O st):lY st=(off st:Int):=by
 have hs:=h.sz;have hn:=h.n
 have h1:off st<=2048:=by unfold off;omega
 have hc:=h.aM
 unfold Sc.lY
 rw[show IntKind.u64.wrap (u64 (1+st.aL)-st.aM)=u64 (u64 (1+st.aL)-st.aM) from rfl,hc,aG (by omega) (by omega)]
theorem gV.same{O:U}{st aO:St}(h:gV O st)(e1:aO.p=st.p)(e2:aO.bD=st.bD)(e3:aO.b=st.b)(e4:aO.aL=st.aL)(e5:aO.aM=st.aM)(e6:aO.ch=st.ch):gV O aO∧off aO=off st:=by
 have o:off aO=off st:=by unfold off;rw[e1,e2,e3]
 exact⟨⟨by rw[e3];exact h.b,by rw[e1,e2,e3];exact h.le,by rw[e1,e2];exact h.w,by rw[e1];exact h.n,h.sz,by rw[e4,e5,o];exact h.aM,by rw[e6,e2];exact h.pos⟩,o⟩
theorem gV.error{O:U}{st:St}(h:gV O st)(m:U):gV O (error m st)∧off (error m st)=off st:=h.same rfl rfl rfl rfl rfl rfl
theorem gV.fG{O:U}{st:St}(h:gV O st):(fG O st).size=off st:=by
 unfold Sc.fG off
 have:=h.le;have:=h.n;have:=h.w
 rw[ByteArray.size_extract];omega
theorem QY(O:U)(mx:Int)(p:St×Int×Int)(h:gV O p.1)(hi:p.2.2<0∨p.2.2<off p.1):
 gV O (iW O mx p).1∧off p.1<=off (iW O mx p).1∧((iW O mx p).2.2<0∨(iW O mx p).2.2<off (iW O mx p).1):=by
 unfold iW
 refine cp (body:=yl O mx) (μ:=mY O) (fun a=>gV O a.1∧off p.1<=off a.1∧(a.2.2<0∨a.2.2<off a.1)) (P:=fun(q:St×Int×Int)=>gV O q.1∧off p.1<=off q.1∧(q.2.2<0∨q.2.2<off q.1)) (fun a ha=> ?_) p ⟨h,Nat.le_refl _,hi⟩
 obtain⟨h1,h2,h3⟩:=ha
 have key:¬a.1.ch= -1->¬a.1.ch=10->(vN O mx a).aD fun s=>match s with
  | .go a'=>(gV O a'.1∧off p.1<=off a'.1∧(a'.2.2<0∨a'.2.2<off a'.1))∧mY O a'<mY O a
  | .out q=>gV O q.1∧off p.1<=off q.1∧(q.2.2<0∨q.2.2<off q.1):=fun hn gI=>by
  obtain⟨g1,g2,g3⟩:=h1.next gI
  have g3:=g3 hn
  have g4:left O (aa O a.1)<left O a.1:=aQ O a.1 hn
  have old:gV O (aa O a.1)∧off p.1<=off (aa O a.1)∧(a.2.2<0∨a.2.2<off (aa O a.1)):=⟨g1,by omega,by omega⟩
  exact⟨fun _=>⟨old,g4⟩,fun _=>⟨fun _=>⟨fun _=>⟨⟨g1,by show off p.1<=off (aa O a.1);omega,.inr (by show lY a.1<(off (aa O a.1):Int);rw[h1.lY];omega)⟩,g4⟩,fun _=>⟨old,g4⟩⟩,fun _=>⟨old,g4⟩⟩⟩
 refine⟨fun hd=>key (mX hd) (by have:=jZ hd;omega),fun _=>⟨fun hd=> ?_,fun _=>⟨h1,h2,h3⟩⟩⟩
 have e:a.1.ch=95:=by simpa using hd
 exact key (by omega) (by omega)
theorem A0{c:Int}(h:dj c=true):¬c=10:=fun e=>by rw[e]at h;revert h;decide
theorem QZ(O:U)(p:St×Int)(h:gV O p.1):gV O (lh O p).1∧off p.1<=off (lh O p).1:=by
 unfold lh
 refine cp (body:=Ae O) (μ:=oF O) (fun a=>gV O a.1∧off p.1<=off a.1) (P:=fun(q:St×Int)=>gV O q.1∧off p.1<=off q.1) (fun a ha=> ?_) p ⟨h,Nat.le_refl _⟩
 obtain⟨h1,h2⟩:=ha
 have key:¬a.1.ch= -1->¬a.1.ch=10->(gV O (aa O a.1)∧off p.1<=off (aa O a.1))∧left O (aa O a.1)<left O a.1:=fun hn gI=>by
  obtain⟨g1,g2,g3⟩:=h1.next gI
  exact⟨⟨g1,by omega⟩,aQ O a.1 hn⟩
 have k95:(a.1.ch==95)=true->¬a.1.ch= -1∧¬a.1.ch=10:=fun hd=>by
  have e:a.1.ch=95:=by simpa using hd
  omega
 exact⟨fun hd=>⟨fun _=>key (sS hd) (A0 hd),fun _=>key (sS hd) (A0 hd)⟩,fun _=>⟨fun hd=>⟨fun _=>key (k95 hd).1 (k95 hd).2,fun _=>key (k95 hd).1 (k95 hd).2⟩,fun _=>⟨h1,h2⟩⟩⟩
theorem Q0(O:U)(p:St×Int)(h:gV O p.1):gV O (cP O p).1∧off p.1<=off (cP O p).1:=by
 unfold cP
 refine cp (body:=Ac O 58) (μ:=oF O) (fun a=>gV O a.1∧off p.1<=off a.1) (P:=fun(q:St×Int)=>gV O q.1∧off p.1<=off q.1) (fun a ha=> ?_) p ⟨h,Nat.le_refl _⟩
 obtain⟨h1,h2⟩:=ha
 have key:¬a.1.ch= -1->¬a.1.ch=10->(gV O (aa O a.1)∧off p.1<=off (aa O a.1))∧left O (aa O a.1)<left O a.1:=fun hn gI=>by
  obtain⟨g1,g2,g3⟩:=h1.next gI
  exact⟨⟨g1,by omega⟩,aQ O a.1 hn⟩
 have k95:(a.1.ch==95)=true->¬a.1.ch= -1∧¬a.1.ch=10:=fun hd=>by
  have e:a.1.ch=95:=by simpa using hd
  omega
 refine⟨fun hd=>⟨fun _=>key (mX hd) (by have:=jZ hd;omega),fun _=>⟨fun h2=> ?_,fun _=>key (mX hd) (by have:=jZ hd;omega)⟩⟩,fun _=>⟨fun hd=>⟨fun _=>key (k95 hd).1 (k95 hd).2,fun hh=>absurd hd (by simp[hh])⟩,fun _=>⟨h1,h2⟩⟩⟩
 have h3:=jZ hd
 have h4:a.1.ch>=58:=of_decide_eq_true h2
 exfalso;omega
theorem yz(O:U)(b:Int)(st:St)(inv:Int)(h:gV O st)(hi:inv<0∨inv<off st):
 gV O (bY O b st inv).1∧off st<=off (bY O b st inv).1∧((bY O b st inv).2.2<0∨(bY O b st inv).2.2<off (bY O b st inv).1):=by
 unfold bY
 split
 ·exact QY O _ (st,0,inv) h hi
 ·have:=QZ O (st,0) h
  exact⟨this.1,this.2,by have h2:=this.2;simp only at h2⊢;omega⟩
def nW(a b:Int):Int:=IntKind.i64.wrap ↑(BitVec.ofInt IntKind.i64.bits a&&&BitVec.ofInt IntKind.i64.bits b).toNat
def gn:U:=ByteArray.mk #[105,110,118,97,108,105,100,32,114,97,100,105,120,32,112,111,105,110,116,32,105,110,32,37,115,32,108,105,116,101,114,97,108]
def yA:U:=ByteArray.mk #[37,115,32,108,105,116,101,114,97,108,32,104,97,115,32,110,111,32,100,105,103,105,116,115]
def CW:U:=ByteArray.mk #[101,120,112,111,110,101,110,116,32,104,97,115,32,110,111,32,100,105,103,105,116,115]
def wX:U:=ByteArray.mk #[104,101,120,97,100,101,99,105,109,97,108,32,109,97,110,116,105,115,115,97,32,114,101,113,117,105,114,101,115,32,97,32,39,112,39,32,101,120,112,111,110,101,110,116]
def Q1:U:=ByteArray.mk #[105,110,118,97,108,105,100,32,100,105,103,105,116,32,37,113,32,105,110,32,37,115,32,108,105,116,101,114,97,108]
def Q2:U:=ByteArray.mk #[39,95,39,32,109,117,115,116,32,115,101,112,97,114,97,116,101,32,115,117,99,99,101,115,115,105,118,101,32,100,105,103,105,116,115]
def iw(b:Int):Prop:=b=2∨b=8∨b=10∨b=16
def G_(O:U)(base pre d0:Int)(r:St×Int×Int):af bh:=
 .aj (r.1.ch==46)
  (.aj (pre==111) (.aY (iw base) (.ae {st:=aa O (error gn r.1),ok:=false,kind:=0,base:=base,pre:=pre,ky:=nv d0 r.2.1,inv:=r.2.2,seen:=true}))
    (.aj (pre==98) (.aY (iw base) (.ae {st:=aa O (error gn r.1),ok:=false,kind:=0,base:=base,pre:=pre,ky:=nv d0 r.2.1,inv:=r.2.2,seen:=true}))
      (.ae {st:=aa O r.1,ok:=true,kind:=0,base:=base,pre:=pre,ky:=nv d0 r.2.1,inv:=r.2.2,seen:=true})))
  (.ae {st:=r.1,ok:=true,kind:=0,base:=base,pre:=pre,ky:=nv d0 r.2.1,inv:=r.2.2,seen:=false})
def uE(O:U)(st:St):af bh:=
 .aj (st.ch==48)
  (.aj (ay (aa O st).ch==120) (G_ O 16 120 0 (bY O 16 (aa O (aa O st)) (-1)))
    (.aj (ay (aa O st).ch==111) (G_ O 8 111 0 (bY O 8 (aa O (aa O st)) (-1)))
      (.aj (ay (aa O st).ch==98) (G_ O 2 98 0 (bY O 2 (aa O (aa O st)) (-1)))
        (G_ O 8 48 1 (bY O 8 (aa O st) (-1))))))
  (G_ O 10 0 0 (bY O 10 st (-1)))
def V9(st:St):bh:={st:=st,ok:=true,kind:=0,base:=10,pre:=0,ky:=0,inv:= -1,seen:=true}
def IN(O:U)(s:bh):af bh:=
 .aj s.seen (.ae {s with st:=(bY O s.base s.st s.inv).1,kind:=1,ky:=nv s.ky (bY O s.base s.st s.inv).2.1,inv:=(bY O s.base s.st s.inv).2.2}) (.ae s)
def EW(s:bh):af bh:=
 .aj (nW s.ky 1==0) (.aj s.ok (.aY (iw s.base) (.ae {s with st:=error yA s.st,ok:=false})) (.ae s)) (.ae s)
def dW(O:U)(s:bh)(wY:St):af bh:=
 .aj (nW (nv (cP O (wY,0)).2 (nW s.ky 2)) 1==0)
  (.aj s.ok (.ae {s with st:=error CW (cP O (wY,0)).1,ok:=false,kind:=1,ky:=nv (cP O (wY,0)).2 (nW s.ky 2)}) (.ae {s with st:=(cP O (wY,0)).1,kind:=1,ky:=nv (cP O (wY,0)).2 (nW s.ky 2)}))
  (.ae {s with st:=(cP O (wY,0)).1,kind:=1,ky:=nv (cP O (wY,0)).2 (nW s.ky 2)})
def dz(O:U)(s:bh):af bh:=
 .aj ((aa O s.st).ch==43) (dW O s (aa O (aa O s.st))) (.aj ((aa O s.st).ch==45) (dW O s (aa O (aa O s.st))) (dW O s (aa O s.st)))
def iX(s:bh):af bh:=
 .aj (s.pre==120) (.aj (s.kind==1) (.aj s.ok (.ae {s with st:=error wX s.st,ok:=false}) (.ae s)) (.ae s)) (.ae s)
abbrev nX(A:Ad):E (SY A)->af (Ex×E (SY A)):=cx (wV A) (fun p=> .ae (.normal,eu A (fe p)))
def DS(O:U)(B:Prop)(s:bh):af bh:=
 .aj (ay s.st.ch==101) (.aj s.ok (.aY B (dz O (fe (s,ay s.st.ch)))) (dz O s))
  (.aj (ay s.st.ch==112) (.aj s.ok (.aY B (dz O (fe (s,ay s.st.ch)))) (dz O s)) (iX s))
def q_(O:U)(s:bh):af bh:= .aj (s.st.ch==105) (.ae {s with st:=aa O s.st,kind:=2}) (.ae s)
def EY(O:U)(s:bh):af bh:=
 .aY (s.st.b.isSome=true)
  (.aj (s.kind==0)
    (.aj (decide (s.inv>=0))
      (.aj s.ok (.aY (0<=s.inv∧s.inv.toNat<(bJ O s.kind s.ok s.st).lit.size) (.aY (iw s.base) (.ae {s with st:=bF s.inv Q1 (bJ O s.kind s.ok s.st),ok:=false})))
        (.ae {s with st:=bJ O s.kind s.ok s.st}))
      (.ae {s with st:=bJ O s.kind s.ok s.st}))
    (.ae {s with st:=bJ O s.kind s.ok s.st}))
def Ha(s:bh):af bh:=
 .aj (nW s.ky 2 != 0) (.aj s.ok (.aY (s.st.lit.size<=4611686018427387904) (.aj (decide (bC s.st.lit>=0)) (.ae {s with st:=bF (bC s.st.lit) Q2 s.st,ok:=false}) (.ae s))) (.ae s)) (.ae s)
def wo:List Nat:=[0,1,4,5,6,7,8,9]
abbrev ra:Nat:=Tryz.f66.ntmps
theorem aa0(A:Ad)(st:St):(az (IK A ra) (ck 7 cu) ⟨⟨st,[]⟩,[(0,.st 0),(1,.ff)]⟩).bind (fun xe=> .ae (xe.1,cU wo xe.2))=(uE A.O st).bind fun s=> .ae (.normal,eu A s):=by kernel_rfl
theorem aa1(A:Ad)(st:St):(az (IK A ra) (ck 7 cu) ⟨⟨st,[]⟩,[(0,.st 0),(1,.tt)]⟩).bind (fun xe=> .ae (xe.1,cU wo xe.2))= .ae (.normal,eu A (V9 st)):=by kernel_rfl
theorem aev(A:Ad)(s:bh):(az (IK A ra) (ck 1 (ah 7 cu)) (eu A s)).bind (fun xe=> .ae (xe.1,cU wo xe.2))=(IN A.O s).bind fun s=> .ae (.normal,eu A s):=by kernel_rfl
theorem aew(A:Ad)(s:bh):(az (IK A ra) (ck 1 (ah 8 cu)) (eu A s)).bind (fun xe=> .ae (xe.1,cU wo xe.2))=(EW s).bind fun s=> .ae (.normal,eu A s):=by kernel_rfl
abbrev cfX(A:Ad):eS (SY A):=iM A (Kx A) ra [(1,nX A)] 0
theorem aex(A:Ad)(s:bh):(az (cfX A) (ck 1 (ah 9 cu)) (eu A s)).bind (fun xe=> .ae (xe.1,cU wo xe.2))=(DS A.O (cy (SY A) ra 1 nV (nX A)) s).bind fun s=> .ae (.normal,eu A s):=by kernel_rfl
theorem aa2(A:Ad)(s:bh):(az (IK A ra) (ck 1 (ah 10 cu)) (eu A s)).bind (fun xe=> .ae (xe.1,cU wo xe.2))=(q_ A.O s).bind fun s=> .ae (.normal,eu A s):=by kernel_rfl
theorem aey(A:Ad)(s:bh):(az (IK A ra) (ck 2 (ah 11 cu)) (eu A s)).bind (fun xe=> .ae (xe.1,cU wo xe.2))=(EY A.O s).bind fun s=> .ae (.normal,eu A s):=by kernel_rfl
theorem aez(A:Ad)(s:bh):(az (IK A ra) (ck 1 (ah 13 cu)) (eu A s)).bind (fun xe=> .ae (xe.1,cU wo xe.2))=(Ha s).bind fun s=> .ae (.normal,eu A s):=by kernel_rfl
theorem aeA(A:Ad)(s:bh):(az (IK A ra) (ah 14 cu) (eu A s)).bind (fun xe=> .ae (xe.1,cU [] xe.2))= .ae (.normal,⟨⟨{s.st with bad:= !s.ok},[.int .i64 s.inv]⟩,[]⟩):=by kernel_rfl
theorem Kz:jw 7 cu=true∧jw 1 (ah 7 cu)=true∧jw 1 (ah 8 cu)=true∧jw 1 (ah 9 cu)=true∧jw 1 (ah 10 cu)=true∧jw 2 (ah 11 cu)=true∧jw 1 (ah 13 cu)=true:=
 ⟨by kernel_rfl,by kernel_rfl,by kernel_rfl,by kernel_rfl,by kernel_rfl,by kernel_rfl,by kernel_rfl⟩
theorem Q3:ah 1 (ah 7 cu)=ah 8 cu∧ah 1 (ah 8 cu)=ah 9 cu∧ah 1 (ah 9 cu)=ah 10 cu∧ah 1 (ah 10 cu)=ah 11 cu∧ah 2 (ah 11 cu)=ah 13 cu∧ah 1 (ah 13 cu)=ah 14 cu:=
 ⟨by kernel_rfl,by kernel_rfl,by kernel_rfl,by kernel_rfl,by kernel_rfl,by kernel_rfl⟩
theorem kJ{A:Ad}(hA:A.Ok){C:eS (SY A)}(hC:C.Ok)(hN:C.N=ra){c tail:Code}(n:Nat)(hc:jw n c=true)(ht:ah n c=tail){T:bh->af bh}
 (Z2:∀s,(az C (ck n c) (eu A s)).bind (fun xe=> .ae (xe.1,cU wo xe.2))=(T s).bind fun s=> .ae (.normal,eu A s)){gb:bh->af (Ex×E (SY A))}(hB:At (SY A) ra tail (eu A) gb):
 At (SY A) ra c (eu A) (fun s=>(T s).bind gb):=by
 subst ht
 rw[←hN]at hB⊢
 refine At.cut (db A hA) hC n hc hB (fun s Q h=> ?_)
 rw[ax]at h
 have h1:((az C (ck n c) (eu A s)).bind (fun xe=> .ae (xe.1,cU wo xe.2))).aD (fun xe=>xe.1= .normal∧∃q,xe.2=eu A q∧(gb q).aD Q):=by
  rw[Z2,ax]
  exact an h (fun q hq=>⟨rfl,q,rfl,hq⟩)
 rw[ax]at h1
 refine an h1 ?_
 rintro⟨ex,e⟩ ⟨k1,q,k2,k3⟩
 simp only at k1 k2
 subst k1
 exact⟨q,by rw[←k2];exact iU _ _,k3⟩
def CX(s:bh):St:={s.st with bad:= !s.ok}
def nY(A:Ad)(s:bh):af (Ex×E (SY A)):= .ae (.normal,⟨⟨CX s,[.int .i64 s.inv]⟩,[]⟩)
def dd(O:U)(B:Prop){α:Type}(k:bh->af α)(s:bh):af α:=
 (IN O s).bind fun s=>(EW s).bind fun s=>(DS O B s).bind fun s=>(q_ O s).bind fun s=>(EY O s).bind fun s=>(Ha s).bind k
theorem Q4(A:Ad)(hA:A.Ok):At (SY A) ra (ah 7 cu) (eu A) (dd A.O (cy (SY A) ra 1 nV (nX A)) (nY A)):=by
 have c0:(IK A ra).Ok:=bw A hA (gl A hA) ra [] 0
 have c1:(cfX A).Ok:=bw A hA (gl A hA) ra [(1,nX A)] 0
 obtain⟨k1,k2,k3,k4,k5,k6,k7⟩:=Kz
 obtain⟨t1,t2,t3,t4,t5,t6⟩:=Q3
 have a14:At (SY A) ra (ah 14 cu) (eu A) (nY A):=At.qB (db A hA) c0 (fun _=>[]) (fun s Q h=>bB (aeA A s) h)
 have a13:=kJ hA c0 rfl 1 k7 t6 (aez A) a14
 have a11:=kJ hA c0 rfl 2 k6 t5 (aey A) a13
 have a10:=kJ hA c0 rfl 1 k5 t4 (aa2 A) a11
 have a9:=kJ hA c1 rfl 1 k4 t3 (aex A) a10
 have a8:=kJ hA c0 rfl 1 k3 t2 (aew A) a9
 exact kJ hA c0 rfl 1 k2 t1 (aev A) a8
def dr(O:U)(B:Prop){α:Type}(k:bh->af α)(seen:Bool)(st:St):af α:=if seen=true then dd O B k (V9 st)else(uE O st).bind (dd O B k)
theorem Q5(A:Ad)(hA:A.Ok)(seen:Bool):At (SY A) ra cu (fun st=>⟨⟨st,[]⟩,number 0 [.st 0,if seen=true then .tt else .ff]⟩) (dr A.O (cy (SY A) ra 1 nV (nX A)) (nY A) seen):=by
 have c0:(IK A ra).Ok:=bw A hA (gl A hA) ra [] 0
 obtain⟨k1,_⟩:=Kz
 refine At.cut (db A hA) c0 7 k1 (Q4 A hA) (fun st Q h=> ?_)
 cases seen with
 |true=>
  have h1:((az (IK A ra) (ck 7 cu) ⟨⟨st,[]⟩,[(0,.st 0),(1,.tt)]⟩).bind (fun xe=> .ae (xe.1,cU wo xe.2))).aD (fun xe=>xe.1= .normal∧∃q,xe.2=eu A q∧(dd A.O (cy (SY A) ra 1 nV (nX A)) (nY A) q).aD Q):=by
   exact bB (aa1 A st) ⟨rfl,_,rfl,h⟩
  rw[ax]at h1
  refine an h1 ?_
  rintro⟨ex,e⟩ ⟨k1,q,k2,k3⟩
  simp only at k1 k2
  subst k1
  exact⟨q,by rw[←k2];exact iU _ _,k3⟩
 |false=>
  have h1:((az (IK A ra) (ck 7 cu) ⟨⟨st,[]⟩,[(0,.st 0),(1,.ff)]⟩).bind (fun xe=> .ae (xe.1,cU wo xe.2))).aD (fun xe=>xe.1= .normal∧∃q,xe.2=eu A q∧(dd A.O (cy (SY A) ra 1 nV (nX A)) (nY A) q).aD Q):=by
   refine bB (aa0 A st) ?_
   rw[ax]
   have h':((uE A.O st).bind (dd A.O (cy (SY A) ra 1 nV (nX A)) (nY A))).aD Q:=h
   rw[ax]at h'
   exact an h' (fun q hq=>⟨rfl,q,rfl,hq⟩)
  rw[ax]at h1
  refine an h1 ?_
  rintro⟨ex,e⟩ ⟨k1,q,k2,k3⟩
  simp only at k1 k2
  subst k1
  exact⟨q,by rw[←k2];exact iU _ _,k3⟩
structure gf(O:U)(st:St)(s:bh):Prop where
 base:iw s.base
 uF:gV O s.st
 inv:s.inv<0∨s.inv<off s.st
 on:On O st s.st
theorem sW{α β:Type}{O:U}{body:α->af (Step α β)}{μ:α->Nat}{d:β}(f:α->St)(g:β->St)(I:α->Prop)
 (h:∀a,I a->(body a).aD fun s=>match s with
   | .go a'=>(I a'∧On O (f a) (f a'))∧μ a'<μ a
   | .out b=>On O (f a) (g b))(a:α)(ha:I a):On O (f a) (g (cC body μ d a)):=by
 refine cp (body:=body) (μ:=μ) (fun x=>I x∧On O (f a) (f x)) (P:=fun b=>On O (f a) (g b)) (fun x hx=> ?_) a ⟨ha,On.refl _ _⟩
 refine an (h x hx.1) (fun s hs=> ?_)
 cases s with
 |go a'=>exact⟨⟨hs.1.1,hx.2.trans hs.1.2⟩,hs.2⟩
 |out b=>exact hx.2.trans hs
theorem uG(O:U)(b:Int)(st:St)(inv:Int):On O st (bY O b st inv).1:=by
 unfold bY
 split
 ·exact sW (O:=O) (body:=yl O (IntKind.i32.wrap (IntKind.i64.wrap (48+b)))) (fun p:St×Int×Int=>p.1) (fun p:St×Int×Int=>p.1) (fun _=>True) (fun a _=>an (wP O _ a) (fun s hs=>by cases s with
   |go a'=>exact⟨⟨trivial,hs.1⟩,hs.2⟩
   |out q=>exact hs)) (st,0,inv) trivial
 ·exact sW (O:=O) (body:=Ae O) (fun p:St×Int=>p.1) (fun p:St×Int=>p.1) (fun _=>True) (fun a _=>an (wR O a) (fun s hs=>by cases s with
   |go a'=>exact⟨⟨trivial,hs.1⟩,hs.2⟩
   |out q=>exact hs)) (st,0) trivial
theorem Q6(O:U)(st:St):On O st (cP O (st,0)).1:=
 sW (O:=O) (body:=Ac O 58) (fun p:St×Int=>p.1) (fun p:St×Int=>p.1) (fun _=>True) (fun a _=>an (wQ O a) (fun s hs=>by cases s with
  |go a'=>exact⟨⟨trivial,hs.1⟩,hs.2⟩
  |out q=>exact hs)) (st,0) trivial
theorem sX{O:U}{mw st:St}{base pre d0:Int}(hb:iw base)(h:gV O st)(ho:On O mw st):(G_ O base pre d0 (bY O base st (-1))).aD (gf O mw):=by
 obtain⟨h1,h2,h3⟩:=yz O base st (-1) h (.inl (by decide))
 have h4:=ho.trans (uG O base st (-1))
 generalize bY O base st (-1)=r at*
 have key:(r.1.ch==46)=true->∀m,gf O mw {st:=aa O (error m r.1),ok:=false,kind:=0,base:=base,pre:=pre,ky:=nv d0 r.2.1,inv:=r.2.2,seen:=true}:=fun hc m=>by
  have e:r.1.ch=46:=by simpa using hc
  obtain⟨g1,g2⟩:=h1.error m
  obtain⟨g3,g4,g5⟩:=g1.next (by show r.1.ch≠10;rw[e];decide)
  exact⟨hb,g3,by show r.2.2<0∨r.2.2<(off (aa O (error m r.1)):Int);omega,h4.trans ((fN _ _ _).trans (aR _ _))⟩
 refine⟨fun hc=>⟨fun _=>⟨hb,key hc _⟩,fun _=>⟨fun _=>⟨hb,key hc _⟩,fun _=> ?_⟩⟩,fun _=>⟨hb,h1,h3,h4⟩⟩
 have e:r.1.ch=46:=by simpa using hc
 obtain⟨g3,g4,g5⟩:=h1.next (by rw[e];decide)
 exact⟨hb,g3,by show r.2.2<0∨r.2.2<(off (aa O r.1):Int);omega,h4.trans (aR _ _)⟩
theorem sY{c k:Int}(hk:k≠42)(h:(ay c==k)=true):c≠10:=fun e=>by
 rw[e]at h
 have:ay 10=k:=by simpa using h
 exact hk (by rw[←this];decide)
theorem pe{O:U}{st:St}(h:gV O st)(hc:st.ch≠10):(uE O st).aD (gf O st):=by
 obtain⟨h1,_,_⟩:=h.next hc
 have o1:=aR O st
 refine⟨fun _=>⟨fun hx=> ?_,fun _=>⟨fun hx=> ?_,fun _=>⟨fun hx=> ?_,fun _=>sX (.inr (.inl rfl)) h1 o1⟩⟩⟩,fun _=>sX (.inr (.inr (.inl rfl))) h (On.refl _ _)⟩
 ·exact sX (.inr (.inr (.inr rfl))) (h1.next (sY (by decide) hx)).1 (o1.trans (aR _ _))
 ·exact sX (.inr (.inl rfl)) (h1.next (sY (by decide) hx)).1 (o1.trans (aR _ _))
 ·exact sX (.inl rfl) (h1.next (sY (by decide) hx)).1 (o1.trans (aR _ _))
theorem sZ{O:U}{st:St}{s:bh}(h:gf O st s):(IN O s).aD (gf O st):=by
 obtain⟨h1,h2,h3⟩:=yz O s.base s.st s.inv h.uF h.inv
 exact⟨fun _=>⟨h.base,h1,h3,h.on.trans (uG _ _ _ _)⟩,fun _=>h⟩
theorem gf.err{O:U}{st:St}{s:bh}(h:gf O st s)(m:U){s':bh}(e1:s'.st=error m s.st)(e2:s'.base=s.base)(e3:s'.inv=s.inv):gf O st s':=by
 obtain⟨g1,g2⟩:=h.uF.error m
 exact⟨by rw[e2];exact h.base,by rw[e1];exact g1,by rw[e1,e3,g2];exact h.inv,by rw[e1];exact h.on.trans (fN _ _ _)⟩
theorem s_{O:U}{st:St}{s:bh}(h:gf O st s):(EW s).aD (gf O st):=
 ⟨fun _=>⟨fun _=>⟨h.base,h.err _ rfl rfl rfl⟩,fun _=>h⟩,fun _=>h⟩
theorem yB{O:U}{st wY:St}{s:bh}(h:gf O st s)(h1:gV O wY)(h2:off s.st<=off wY)(h3:On O st wY):(dW O s wY).aD (gf O st):=by
 obtain⟨g1,g2⟩:=Q0 O (wY,0) h1
 have g3:=h3.trans (Q6 O wY)
 have hi:=h.inv
 have g2':off wY<=off (cP O (wY,0)).1:=g2
 have key:gf O st {s with st:=(cP O (wY,0)).1,kind:=1,ky:=nv (cP O (wY,0)).2 (nW s.ky 2)}:=⟨h.base,g1,by show s.inv<0∨s.inv<(off (cP O (wY,0)).1:Int);omega,g3⟩
 exact⟨fun _=>⟨fun _=>key.err CW rfl rfl rfl,fun _=>key⟩,fun _=>key⟩
theorem vO{O:U}{st:St}{s:bh}(h:gf O st s)(hc:s.st.ch≠10):(dz O s).aD (gf O st):=by
 obtain⟨g1,g2,_⟩:=h.uF.next hc
 have g3:=h.on.trans (aR O s.st)
 have two:(aa O s.st).ch≠10->(dW O s (aa O (aa O s.st))).aD (gf O st):=fun hn=>by
  obtain⟨k1,k2,_⟩:=g1.next hn
  exact yB h k1 (by omega) (g3.trans (aR _ _))
 refine⟨fun hx=>two ?_,fun _=>⟨fun hx=>two ?_,fun _=>yB h g1 g2 g3⟩⟩
 ·have e:(aa O s.st).ch=43:=by simpa using hx
  rw[e];decide
 ·have e:(aa O s.st).ch=45:=by simpa using hx
  rw[e];decide
theorem Q7{O:U}{st:St}{s:bh}(h:gf O st s)(e:Int):gf O st (fe (s,e))∧(fe (s,e)).st.ch=s.st.ch:=by
 unfold fe
 split
 ·exact⟨h.err yw rfl rfl rfl,rfl⟩
 ·split
  ·exact⟨h.err yx rfl rfl rfl,rfl⟩
  ·exact⟨h,rfl⟩
theorem tb{O:U}{B:Prop}{st:St}{s:bh}(hB:B)(h:gf O st s):(DS O B s).aD (gf O st):=by
 have part:s.st.ch≠10->(s.ok=true->B∧(dz O (fe (s,ay s.st.ch))).aD (gf O st))∧(s.ok=false->(dz O s).aD (gf O st)):=fun hc=>by
  obtain⟨k1,k2⟩:=Q7 h (ay s.st.ch)
  exact⟨fun _=>⟨hB,vO k1 (by rw[k2];exact hc)⟩,fun _=>vO h hc⟩
 exact⟨fun hx=>part (sY (by decide) hx),fun _=>⟨fun hx=>part (sY (by decide) hx),fun _=>⟨fun _=>⟨fun _=>⟨fun _=>h.err wX rfl rfl rfl,fun _=>h⟩,fun _=>h⟩,fun _=>h⟩⟩⟩
theorem pf{O:U}{st:St}{s:bh}(h:gf O st s):(q_ O s).aD (gf O st):=by
 refine⟨fun hx=> ?_,fun _=>h⟩
 have e:s.st.ch=105:=by simpa using hx
 obtain⟨g1,g2,_⟩:=h.uF.next (by rw[e];decide)
 have hi:=h.inv
 exact⟨h.base,g1,by show s.inv<0∨s.inv<(off (aa O s.st):Int);omega,h.on.trans (aR _ _)⟩
def EZ(O:U)(s:bh):Prop:=s.st.lit.size<=2048
theorem CY{O:U}{st:St}{s:bh}(h:gf O st s):(EY O s).aD (EZ O):=by
 have hl:(bJ O s.kind s.ok s.st).lit.size=off s.st:=h.uF.fG
 have hs:=h.uF.sz;have hn:=h.uF.n
 have ho:off s.st<=2048:=by unfold off;omega
 have l1:EZ O {s with st:=bJ O s.kind s.ok s.st}:=by unfold EZ;show(bJ O s.kind s.ok s.st).lit.size<=2048;omega
 have hi:=h.inv
 refine⟨h.uF.b,fun _=>⟨fun h1=>⟨fun _=>⟨⟨of_decide_eq_true h1,?_⟩,h.base,?_⟩,fun _=>l1⟩,fun _=>l1⟩,fun _=>l1⟩
 ·have h2:s.inv>=0:=of_decide_eq_true h1
  rw[hl];omega
 ·show(bJ O s.kind s.ok s.st).lit.size<=2048
  omega
theorem CZ{O:U}{s:bh}(h:EZ O s):(Ha s).aD (fun _=>True):=by
 have h:s.st.lit.size<=2048:=h
 exact⟨fun _=>⟨fun _=>⟨by omega,fun _=>trivial,fun _=>trivial⟩,fun _=>trivial⟩,fun _=>trivial⟩
theorem na(O:U)(b p d:Int)(r:St×Int×Int):(G_ O b p d r).cg:=⟨⟨trivial,trivial,trivial⟩,trivial⟩
theorem IP(O:U)(st:St):(uE O st).cg:=⟨⟨na _ _ _ _ _,na _ _ _ _ _,na _ _ _ _ _,na _ _ _ _ _⟩,na _ _ _ _ _⟩
theorem Na(O:U)(s:bh):(IN O s).cg:=⟨trivial,trivial⟩
theorem Nc(s:bh):(EW s).cg:=⟨⟨trivial,trivial⟩,trivial⟩
theorem nZ(O:U)(s:bh)(st:St):(dW O s st).cg:=⟨⟨trivial,trivial⟩,trivial⟩
theorem jL(O:U)(s:bh):(dz O s).cg:=⟨nZ _ _ _,nZ _ _ _,nZ _ _ _⟩
theorem Nd(O:U)(B:Prop)(s:bh):(DS O B s).cg:=⟨⟨jL _ _,jL _ _⟩,⟨jL _ _,jL _ _⟩,⟨⟨trivial,trivial⟩,trivial⟩,trivial⟩
theorem IQ(O:U)(s:bh):(q_ O s).cg:=⟨trivial,trivial⟩
theorem Ng(O:U)(s:bh):(EY O s).cg:=⟨⟨⟨trivial,trivial⟩,trivial⟩,trivial⟩
theorem Nh(s:bh):(Ha s).cg:=⟨⟨⟨trivial,trivial⟩,trivial⟩,trivial⟩
theorem qC(O:U)(B:Prop)(s:bh):(dd O B af.ae s).cg:=
 ek (Na _ _) fun _=>ek (Nc _) fun _=>ek (Nd _ _ _) fun _=>ek (IQ _ _) fun _=>ek (Ng _ _) fun _=>ek (Nh _) fun _=>trivial
theorem Ag(O:U)(B:Prop)(seen:Bool)(st:St):(dr O B af.ae seen st).cg:=by
 unfold dr
 split
 ·exact qC _ _ _
 ·exact ek (IP _ _) fun _=>qC _ _ _
theorem aeB{O:U}{B:Prop}{s:bh}{R:bh->Prop}(hB:B)(h:(DS O True s).aD R):(DS O B s).aD R:=
 ⟨fun h1=>⟨fun h2=>⟨hB,((h.1 h1).1 h2).2⟩,(h.1 h1).2⟩,fun h1=>⟨fun h2=>⟨fun h3=>⟨hB,(((h.2 h1).1 h2).1 h3).2⟩,((h.2 h1).1 h2).2⟩,(h.2 h1).2⟩⟩
theorem A1{O:U}{B:Prop}{α:Type}{k:bh->af α}{s:bh}{R:bh->Prop}{Q:α->Prop}(hB:B)(h:(dd O True af.ae s).aD R)(hk:∀s,R s->(k s).aD Q):(dd O B k s).aD Q:=by
 simp only[dd,ax]at h⊢
 exact an h fun a h=>an h fun a h=>aeB hB (an h fun a h=>an h fun a h=>an h fun a h=>an h fun a h=>hk a h)
theorem Ni{O:U}{B:Prop}{α:Type}{k:bh->af α}{seen:Bool}{st:St}{R:bh->Prop}{Q:α->Prop}(hB:B)(h:(dr O True af.ae seen st).aD R)(hk:∀s,R s->(k s).aD Q):(dr O B k seen st).aD Q:=by
 unfold dr at*
 split
 ·rename_i hs;rw[if_pos hs]at h;exact A1 hB h hk
 ·rename_i hs
  rw[if_neg hs,ax]at h
  rw[ax]
  exact an h fun a h=>A1 hB h hk
def bP:bh:=⟨mw,false,0,0,0,0,0,false⟩
def mz(O:U)(seen:Bool)(st:St):bh:=(dr O True af.ae seen st).get bP
def fp(O:U)(seen:Bool)(st:St):St:=CX (mz O seen st)
theorem KC{O:U}{seen:Bool}{st:St}(h:gV O st)(hc:st.ch≠10):(dr O True af.ae seen st).aD (fun _=>True):=by
 have tail:∀s,gf O st s->(dd O True af.ae s).aD (fun _=>True):=fun s hs=>by
  simp only[dd,ax]
  exact an (sZ hs) fun a h=>an (s_ h) fun a h=>an (tb trivial h) fun a h=>an (pf h) fun a h=>an (CY h) fun a h=>an (CZ h) fun a _=>trivial
 unfold dr
 split
 ·exact tail _ ⟨.inr (.inr (.inl rfl)),h,.inl (by show(-1:Int)<0;decide),On.refl _ _⟩
 ·rw[ax];exact an (pe h hc) fun a ha=>tail a ha
theorem tc{O:U}{seen:Bool}{st:St}(h:gV O st)(hc:st.ch≠10){R:bh->Prop}:(dr O True af.ae seen st).aD R↔R (mz O seen st):=VG (Ag _ _ _ _) (KC h hc)
def aa3(A:Ad)(args:List SV)(c:aq (SY A)):af (SV×aq (SY A)):=
 match args,c.bx with
 |[.st 0,.ff],[]=> .aY (gV A.O c.st∧c.st.ch≠10) (.ae (unit,⟨fp A.O false c.st,[.int .i64 (mz A.O false c.st).inv]⟩))
 |[.st 0,.tt],[]=> .aY (gV A.O c.st∧c.st.ch≠10) (.ae (unit,⟨fp A.O true c.st,[.int .i64 (mz A.O true c.st).inv]⟩))
 |_,_=> .fail
def aeC(A:Ad):ej (SY A):=⟨66,#[],true,aa3 A⟩
theorem V_:(Tryz.f66).body=some cu:=by kernel_rfl
theorem aa4:(Tryz.f66).results.toList=[]:=by kernel_rfl
theorem Wa(A:Ad)(hA:A.Ok):(aeC A).Ok:=by
 have oJ:∀(seen:Bool) (st:St) (Q:SV×aq (SY A)->Prop),gV A.O st∧st.ch≠10->Q (unit,⟨fp A.O seen st,[.int .i64 (mz A.O seen st).inv]⟩)->
  (dr A.O (cy (SY A) ra 1 nV (nX A)) (nY A) seen st).aD fun xe=>(kR Tryz.f66 xe).aD Q:=fun seen st Q h hq=>by
  refine Ni (V7 A hA) ((tc h.1 h.2).2 (rfl:mz A.O seen st=mz A.O seen st)) (fun s hs=> ?_)
  have hs:mz A.O seen st=s:=hs
  subst hs
  show(match mL [] (Tryz.f66).results.toList with
   |some r=>af.ae (r,(⟨CX (mz A.O seen st),[.int .i64 (mz A.O seen st).inv]⟩:aq (SY A)))
   |none=> .fail).aD Q
  rw[aa4];exact hq
 have one:∀(seen:Bool),fg (SY A) 66 #[] true (fun args c=>match args,c.bx with
  |[.st 0,v],[]=> .aY (v=(if seen=true then .tt else .ff)∧gV A.O c.st∧c.st.ch≠10) (.ae (unit,⟨fp A.O seen c.st,[.int .i64 (mz A.O seen c.st).inv]⟩))
  |_,_=> .fail)∧gT (Y:=SY A) (fun args c=>match args,c.bx with
  |[.st 0,v],[]=> .aY (v=(if seen=true then .tt else .ff)∧gV A.O c.st∧c.st.ch≠10) (.ae (unit,⟨fp A.O seen c.st,[.int .i64 (mz A.O seen c.st).inv]⟩))
  |_,_=> .fail):=fun seen=>by
  refine⟨At.fn (Y:=SY A) Tryz.func66 V_ (N:=ra) rfl (π:=St) (arg:=fun _=>[.st 0,if seen=true then .tt else .ff]) (core:=fun st=>⟨st,[]⟩) (fun _=>by show 2<=ra;decide) (Q5 A hA seen) (fun args c Q h=> ?_),At.iT (fn:=Tryz.f66) (Q5 A hA seen) (fun args c Q h=> ?_)⟩
  ·split at h
   ·rename_i v M7
    obtain⟨st,bx⟩:=c
    have CS:bx=[]:=M7
    subst CS
    obtain⟨⟨rfl,h2⟩,h3⟩:=h
    exact⟨st,rfl,rfl,oJ seen st Q h2 h3⟩
   ·exact h.elim
  ·split at h
   ·rename_i v M7
    obtain⟨st,bx⟩:=c
    have CS:bx=[]:=M7
    subst CS
    obtain⟨⟨rfl,h2⟩,h3⟩:=h
    exact⟨st,rfl,oJ seen st Q h2 h3⟩
   ·exact h.elim
 have key:=Kv (A:=A) (f:=66) (G:=aa3 A) (one false).1 (one true).1 (one false).2 (one true).2 (fun args c Q h=>by
  unfold aa3 at h
  split at h
  ·rename_i M7
   left
   simp only[M7]
   exact⟨⟨rfl,h.1⟩,h.2⟩
  ·rename_i M7
   right
   simp only[M7]
   exact⟨⟨rfl,h.1⟩,h.2⟩
  ·exact h.elim)
 exact⟨fun args w=>by kernel_rfl,key.1,key.2⟩
theorem yC{w:World}{it:Nat}{s:U}{p q:Nat}(h:w.heap[it]? =some (.stringIter s p))(k:Nat):ij (w.iterAt it s q) k=ij w k:=by
 unfold Ev.ij World.shape?
 by_cases hk:k=it
 ·subst hk;rw[Lib.iterAt_heap _ _ _ _ _ h,h]
 ·rw[Lib.iterAt_other _ _ _ _ _ hk]
theorem IS{w:World}{base:Nat}{e:TypeId}{size:Nat}{v:Value}{n:Nat}{xs:List Value}(h:w.ownsRow base e size v n xs){k:Nat}{s:U}{p:Nat}(hk:w.heap[k]? =some (.stringIter s p))(q:Nat):(w.iterAt k s q).ownsRow base e size v n xs:=by
 obtain⟨h1,h2⟩:=h
 refine⟨h1,?_⟩
 rcases h2 with h2|⟨g,cap,cur,a,b,c,d⟩
 ·exact .inl h2
 ·have dH:g≠k:=fun e1=>by rw[e1,hk]at c;cases c
  exact .inr ⟨g,cap,cur,a,b,by rw[Lib.iterAt_other _ _ _ _ _ dH];exact c,d⟩
theorem E1{A:Ad}{x:Raw}{w:World}(h:fa A x w){it:Nat}{s:U}{p:Nat}(hit:w.heap[it]? =some (.stringIter s p))(hb:A.base<=it)(q:Nat):Kept A w (w.iterAt it s q):=by
 have:=h.ok.mP;have:=h.ok.fv;have:=h.ok.dy;have:=h.ok.Eb;have:=h.ok.qT;have:=h.ok.UX;have:=h.ok.J0
 have o:∀k,k<A.base->(w.iterAt it s q).heap[k]? =w.heap[k]? :=fun k hk=>Lib.iterAt_other _ _ _ _ _ (by omega)
 refine⟨Lib.below_iterAt (Below.refl _ _) (by omega) _ _,fun n v hv xs bo=>⟨by rw[o A.e (by omega)];exact hv,IS bo hit q⟩,o _ (by omega),o _ (by omega),o _ (by omega),o _ (by omega),by rw[Lib.iterAt_size];exact Nat.le_refl _⟩
structure gW(A:Ad)(N it:Nat)(s:U)(p:Nat)(e:E (SY A))(mJ bl:List Nat)(w0:World)(a:Act)(w:World):Prop where
 inv:cL (SY A) N e bl a w
 hit:w.heap[it]? =some (.stringIter s p)
 nb:it∉bl
 base:A.base<=it
 new:w0.heap.size<=it
 ext:Ext (SY A) mJ bl w0 w
theorem Wb{A:Ad}{it:Nat}(hA:A.Ok)(hb:A.base<=it):¬(SY A).jo it none:=by
 have:=hA.mP;have:=hA.fv;have:=hA.dy;have:=hA.Eb;have:=hA.qT;have:=hA.UX;have:=hA.J0
 show¬(it<A.w0.heap.size∨it=A.s∨it=A.buf∨it=A.rd∨it=A.e∨it=A.sb∨(A.base<=it∧(none:Option TypeId)=some 70))
 rintro(h|h|h|h|h|h|⟨_,h⟩)
 ·omega
 ·omega
 ·omega
 ·omega
 ·omega
 ·omega
 ·cases h
theorem aa5{w:World}{it:Nat}{s:U}{p:Nat}(h:w.heap[it]? =some (.stringIter s p)):ij w it=none:=by unfold Ev.ij World.shape?;rw[h];rfl
theorem gW.after{A:Ad}(hA:A.Ok){N it:Nat}{s:U}{p:Nat}{e e':E (SY A)}{mJ bl dw:List Nat}{w0 w w':World}{a a':Act}(h:gW A N it s p e mJ bl w0 a w)(hI:cL (SY A) N e' dw a' w')(hx:Ext (SY A) bl dw w w'):gW A N it s p e' mJ dw w0 a' w':=by
 have bz:it<w.heap.size:=(Array.getElem?_eq_some_iff.1 h.hit).1
 refine⟨hI,?_,fun hm=> ?_,h.base,h.new,h.ext.trans hx⟩
 ·rw[hx.fr.bm it bz (by rw[aa5 h.hit];exact Wb hA h.base) h.nb];exact h.hit
 ·rcases hx.new it hm with h1|h1
  ·exact h.nb h1
  ·omega
theorem IT{A:Ad}(hA:A.Ok){bl:List Nat}{w:World}{it:Nat}{s:U}{q:Nat}(hb:A.base<=it){sv:SV}{v:Value}(h:Rel (SY A) bl w sv v):Rel (SY A) bl (w.iterAt it s q) sv v:=
 nC h (List.prefix_refl _) (fun o=>World.cell?_of_block (w:=w) (a:=⟨A.buf,o,none⟩) (Lib.iterAt_other _ _ _ _ _ (by have:=hA.dy;show A.buf≠it;omega)))
theorem gW.step{A:Ad}(hA:A.Ok){N it:Nat}{s:U}{p:Nat}{e:E (SY A)}{mJ bl:List Nat}{w0 w:World}{a:Act}(h:gW A N it s p e mJ bl w0 a w)(q:Nat):gW A N it s q e mJ bl w0 a (w.iterAt it s q):=by
 obtain⟨x,hx,ha⟩:=h.inv.core.inv
 have hk:=E1 hx h.hit h.base q
 have ho:∀k,k≠it->(w.iterAt it s q).heap[k]? =w.heap[k]? :=fun k hk=>Lib.iterAt_other _ _ _ _ _ hk
 refine⟨⟨⟨⟨x,hx.kept hk,ha⟩,h.inv.core.len,h.inv.core.nd,fun i b u hb hu=> ?_,fun b hb=> ?_⟩,h.inv.defers,h.inv.size,fun i=>IT hA h.base (h.inv.rel i)⟩,Lib.iterAt_heap _ _ _ _ _ h.hit,h.nb,h.base,h.new,?_⟩
 ·have hbi:b≠it:=fun e=>h.nb (by rw[←e];exact List.mem_of_getElem? hb)
  have:=h.inv.core.cell i b u hb hu
  rw[World.cell?_of_block (w:=w) (a:=⟨b,0,none⟩) (ho b hbi),World.frozen?_of_block (w:=w) (a:=⟨b,0,none⟩) (ho b hbi)]
  exact this
 ·have:=h.inv.core.free b hb
  rw[yC h.hit,Lib.iterAt_size]
  exact this
 ·refine⟨⟨h.ext.fr.os,h.ext.fr.tape,h.ext.fr.output,by rw[Lib.iterAt_size];exact h.ext.fr.size,fun k hk=>by rw[yC h.hit];exact h.ext.fr.ty k hk,fun k hk ht hb=> ?_⟩,h.ext.pre,h.ext.new⟩
  rw[ho k (by have:=h.new;omega)]
  exact h.ext.fr.bm k hk ht hb
theorem gW.put{A:Ad}{N it:Nat}{s:U}{p:Nat}{c:aq (SY A)}{tm:List (Nat×SV)}{mJ bl:List Nat}{w0 w:World}{a:Act}(h:gW A N it s p ⟨c,tm⟩ mJ bl w0 a w){d:Nat}(hd:iF N (some d)=true)(v:Value):gW A N it s p ⟨c,(d,.val v)::tm⟩ mJ bl w0 (a.put (some d) v) w:=
 ⟨⟨h.inv.core,by rw[put_defers];exact h.inv.defers,by rw[mM];exact h.inv.size,oQ (d:=some d) (sv:= .val v) h.inv.size hd h.inv.rel rfl⟩,h.hit,h.nb,h.base,h.new,h.ext⟩
def kn(O:U):List Int->St->Bool×St
 |[],st=>(true,st)
 |r::rs,st=>if st.ch=r then kn O rs (aa O st)else(false,st)
def fH(tI it:Nat):List (Nat×SV):=[(0,.st 0),(tI,.val (.pointer (some ⟨it,0,none⟩)))]
theorem Wc{A:Ad}(hA:A.Ok){N it tI tK tB id:Nat}{s:U}{p:Nat}{c:aq (SY A)}{mJ bl:List Nat}{w0 w:World}{a:Act}(hI:gW A N it s p ⟨c,fH tI it⟩ mJ bl w0 a w)
 {o1 o2:Oper}(g1:o1.guard=none)(g2:o2.guard=none)(d1:o1.dst=some tK)(d2:o2.dst=some tB)(e1:o1.op= .next (.tmp tI) true)(e2:o2.op= .extract (.tmp tK) 0)(k1:iF N (some tK)=true)(k2:iF N (some tB)=true)(hK:tI≠0)
 {Qx:Exit->Act->World->Prop}
 (Ke:p<s.size->∀a' w',gW A N it s (p+(Utf8.decode s p).2) ⟨c,(tB,.val (.bool true))::(tK,.val (.tuple #[.bool true,.int .i64 p,.int .i32 (Utf8.decode s p).1]))::fH tI it⟩ mJ bl w0 a' w'->Qx .normal a' w')
 (oJ:¬p<s.size->∀a' w',gW A N it s p ⟨c,(tB,.val (.bool false))::(tK,.val (.tuple #[.bool false]))::fH tI it⟩ mJ bl w0 a' w'->Qx .normal a' w'):
 (Code.region id #[o1,o2] false).wp Tryz.prog Qx a w:=by
 have Zo:a.tmps.getD tI undef= .pointer (some ⟨it,0,none⟩):=by
  have:=hI.inv.rel tI
  have hl:Ev.look (fH tI it) tI= .val (.pointer (some ⟨it,0,none⟩)):=by
   unfold fH;rw[aF,if_neg hK,aF,if_pos rfl]
  simp only[hl]at this
  exact this
 have ex:∀(vs:Array Value) (v:Value) (w':World),vs[0]? =some v->∀a',a'=a.put (some tK) (.tuple vs)->(∀K:Act->World->Prop,K (a'.put (some tB) v) w'->o2.wp Tryz.prog a' w' K Qx):=by
  intro vs v w' hv a' Qf K hk
  have hs:a'.eval (.tmp tK)= .tuple vs:=by
   rw[Qf]
   have bz:tK<a.tmps.size:=by rw[hI.inv.size];exact Nat.le_of_ble_eq_true k1
   simp[Act.eval,Act.put,bz]
  unfold Oper.wp
  have:(execOp a'.eval o2).run Tryz.prog w'= .ok (.value v) w':=by
   unfold execOp
   simp only[e2,hs]
   simp[Instr.extract,hv]
  rw[this,Oper.upon_value,d2]
  exact hk
 refine wp_region_list ?_
 show wpList Tryz.prog #[o1,o2] Qx [o1,o2] a w
 unfold wpList
 rw[if_pos (by simp[Region.wanted,g1])]
 refine .inl ?_
 unfold Oper.wp
 by_cases hp:p<s.size
 ·have eg:(execOp a.eval o1).run Tryz.prog w= .ok (.value (.tuple #[.bool true,.int .i64 p,.int .i32 (Utf8.decode s p).1])) (w.iterAt it s (p+(Utf8.decode s p).2)):=by
   unfold execOp
   simp only[e1]
   have he:a.eval (.tmp tI)= .pointer (some ⟨it,0,none⟩):=Zo
   rw[he]
   have:=Lib.run_next_any_at (P:=Tryz.prog) w it s p o1.type hI.hit hp
   simp[this]
  rw[eg,Oper.upon_value,d1]
  unfold wpList
  rw[if_pos (by simp[Region.wanted,g2])]
  refine .inl (ex _ (.bool true) _ rfl _ rfl _ ?_)
  unfold wpList
  exact Ke hp _ _ (((hI.step hA _).put k1 _).put k2 _)
 ·have eg:(execOp a.eval o1).run Tryz.prog w= .ok (.value (.tuple #[.bool false])) w:=by
   unfold execOp
   simp only[e1]
   have he:a.eval (.tmp tI)= .pointer (some ⟨it,0,none⟩):=Zo
   rw[he]
   have:=Lib.run_next_end_at (P:=Tryz.prog) w it s p o1.type hI.hit hp
   simp[this]
  rw[eg,Oper.upon_value,d1]
  unfold wpList
  rw[if_pos (by simp[Region.wanted,g2])]
  refine .inl (ex _ (.bool false) _ rfl _ rfl _ ?_)
  unfold wpList
  exact oJ hp _ _ ((hI.put k1 _).put k2 _)
end
end Sc
end Go.Proofs.YtogkcphobhhbdaaGreatDoor
