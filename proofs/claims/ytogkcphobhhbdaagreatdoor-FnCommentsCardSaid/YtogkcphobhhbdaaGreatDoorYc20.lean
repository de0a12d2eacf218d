/- The scanner of the program told as plain functions, part 20: texts joined and shortened by a program (wip/tools/mini.py). -/
import Derived.Test.YtogkcphobhhbdaaGreatDoorYc19
import Derived.Test.YtogkcphobhhbdaaGreatDoorRows
import Derived.PinnedBridge
import Derived.Lib.LaidRTabT
import Derived.Lib.LaidU8T
import Derived.Stop.LaidErr
import Derived.Lay
import Derived.LaidMore
import Derived.ProofKit
import Derived.OpenShut
import Derived.OpenVars
import Derived.SevenTiedAt
import Derived.Stop.Joined
set_option linter.unusedVariables false
set_option linter.unusedSimpArgs false
set_option maxHeartbeats 32000000
namespace Go.Proofs.YtogkcphobhhbdaaGreatDoor
open Go Go.RowKit Go.Lib
namespace Sc
open Ev
set_option maxRecDepth 100000
noncomputable section
def NBl(b:UInt8):Prop:=b.toNat≠10∧b.toNat≠32∧b.toNat≠9∧b.toNat≠13
def Uk(t:eP):Prop:=∃(s:U) (p n:Nat),0<n∧p+n<=s.size∧t.text=s.extract p (p+n)∧ZX s p n t.cls t.kind∧¬Sub s p N1∧¬Sub s p Jk∧NBl (s.get! p)
theorem Uk.pos{t:eP}(h:Uk t):0<t.text.size:=by
 obtain⟨s,p,n,h1,h2,h3,_⟩:=h
 rw[h3,aA _ _ _ h2]
 omega
theorem Uk.at{t:eP}(h:Uk t){T:U}{x:LS}(h0:x.ai=0)(hs:Sub T x.p t.text)(bn:Ud T (x.p+t.text.size)):
 bT T x=none∧YL T x t.text.size t.cls t.kind (bR T x)∧NBl (T.get! x.p):=by
 obtain⟨s,p,n,h1,h2,h3,h4,h5,h6,h7⟩:=h
 have hz:t.text.size=n:=by rw[h3,aA _ _ _ h2];omega
 rw[hz]at bn⊢
 have hm:Mv s T p x.p n:=by
  refine⟨h2,by have:=hs.le;omega,fun j hj=> ?_⟩
  rw[hs.get j (by omega),h3,a7 _ _ _ _ h2 (by omega)]
 refine⟨?_,h4 T x h0 hm bn,?_⟩
 ·exact(JK (by have:=hs.le;omega)).2 ⟨fun hh=>h5 ((DK hm h1 bn (by decide) (fun _=>h5)).1 hh),fun hh=>h6 ((DK hm h1 bn (by decide) (fun _=>h6)).1 hh)⟩
 ·have g0:=hm.get 0 h1
  rw[Nat.add_zero,Nat.add_zero]at g0
  rw[g0]
  exact h7
theorem YL.text{T:U}{x y:LS}{n:Nat}{cls kind:Int}(h:YL T x n cls kind y){w:U}(hs:Sub T x.p w)(hn:n=w.size):∃l c,y.out=x.out++[⟨cls,w,kind,l,c⟩]:=by
 obtain⟨l,c,e⟩:=h.out
 refine⟨l,c,?_⟩
 rw[e,hn,pA hs]
def agw(t:eP):U:=if t.cls=4 then⟨#[59]⟩else t.text
def lJ:List eP->Nat
 |[]=>0
 |t::l=>1+(agw t).size+lJ l
theorem zI:∀(l r:List eP),lJ (l++r)=lJ l+lJ r
 |[],r=>by rw[List.nil_append,lJ,Nat.zero_add]
 |t::l,r=>by rw[List.cons_append,lJ,lJ,zI l r];omega
structure DL(b:Nat)(x:LS):Prop where
 iZ:∀t∈x.out,(t.cls=4∨(t.cls≠0∧Uk t))
 last:∀t,x.out.getLast?=some t->Bw t=true->x.ends=true
 cost:lJ x.out<=2*b
theorem DL.le{b b':Nat}{x:LS}(h:DL b x)(hb:b<=b'):DL b' x:=⟨h.iZ,h.last,by have:=h.cost;omega⟩
theorem OJ{t:eP}(h:t.cls=4):Bw t=false:=by
 unfold Bw
 rw[h]
 rfl
theorem DL.lO{b:Nat}{x:LS}(h:DL b x):DL (b+1) (cY x)∧∀t,(cY x).out.getLast?=some t->Bw t=false:=by
 have hc:=h.cost
 unfold cY
 cases he:x.ends with
 |true=>
  simp only[if_true]
  refine⟨⟨fun t ht=> ?_,fun t ht hh=> ?_,?_⟩,fun t ht=> ?_⟩
  ·rcases List.mem_append.1 ht with ht|ht
   ·exact h.iZ t ht
   ·simp only[List.mem_singleton]at ht
    subst ht
    exact .inl rfl
  ·simp only[List.getLast?_concat,Option.some.injEq]at ht
   subst ht
   rw[OJ rfl]at hh;cases hh
  ·show lJ (x.out++[⟨4,⟨#[]⟩,0,x.line,0⟩])<=_
   rw[zI]
   show lJ x.out+2<=_
   omega
  ·simp only[List.getLast?_concat,Option.some.injEq]at ht
   subst ht
   rfl
 |false=>
  simp only[if_neg (show¬(false=true)by decide)]
  have key:∀t,x.out.getLast?=some t->Bw t=false:=fun t ht=>by
   cases hh:Bw t with
   |false=>rfl
   |true=>
    have:=h.last t ht hh
    rw[he]at this
    cases this
  exact⟨⟨h.iZ,fun t ht hh=>(by rw[key t ht]at hh;cases hh),by show lJ x.out<=_;omega⟩,key⟩
theorem DL.same{b:Nat}{x y:LS}(h:DL b x)(h1:y.out=x.out)(h2:y.ends=x.ends):DL b y:=⟨by rw[h1];exact h.iZ,by rw[h1,h2];exact h.last,by rw[h1];exact h.cost⟩
theorem oz(s:U)(x:LS)(n:Nat):(br s x n).out=x.out∧(br s x n).ends=x.ends∧(br s x n).p=x.p+n∧(br s x n).ai=x.ai:=by
 unfold br
 split<;>exact⟨rfl,rfl,rfl,rfl⟩
theorem lK(s:U)(p:Nat)(x:LS):(cB s p x).out=x.out∧(cB s p x).ends=x.ends∧(cB s p x).p=x.p:=by
 unfold cB
 split<;>exact⟨rfl,rfl,rfl⟩
theorem u9{s:U}{p:Nat}(hp:p<=s.size):p+aN s p<=s.size∧(p<s.size->1<=aN s p):=by
 unfold aN
 by_cases h:p<s.size
 ·rw[if_pos h]
  exact⟨km s p h,fun _=>(gz s p).1⟩
 ·rw[if_neg h]
  exact⟨hp,fun hh=>absurd hh h⟩
theorem rN{s:U}:∀(n:Nat) (x:LS),x.p<=s.size->(dh s n x).out=x.out∧(dh s n x).ends=x.ends∧x.p<=(dh s n x).p∧(dh s n x).p<=s.size
 |0,x,hp=>⟨rfl,rfl,Nat.le_refl _,hp⟩
 |n+1,x,hp=>by
  rw[dh]
  split
  ·rename_i h
   obtain⟨c1,c2,c3⟩:=lK s x.p x
   have w1:=(u9 hp).1
   obtain⟨a1,a2,a3,a4⟩:=rN (s:=s) n {cB s x.p x with p:=x.p+aN s x.p} w1
   have a3:x.p+aN s x.p<=_:=a3
   exact⟨a1.trans c1,a2.trans c2,by omega,a4⟩
  ·exact⟨rfl,rfl,Nat.le_refl _,hp⟩
theorem jG{s:U}{e:Nat}:∀(n:Nat) (x:LS),x.p<=s.size->(bV s e n x).out=x.out∧(bV s e n x).ends=x.ends∧x.p<=(bV s e n x).p∧(bV s e n x).p<=s.size
 |0,x,hp=>⟨rfl,rfl,Nat.le_refl _,hp⟩
 |n+1,x,hp=>by
  rw[bV]
  split
  ·rename_i h
   obtain⟨c1,c2,c3⟩:=lK s x.p x
   obtain⟨g1,g2,g3,g4⟩:=oz s (cB s x.p x) (aN s x.p)
   have w1:=(u9 hp).1
   obtain⟨a1,a2,a3,a4⟩:=jG (s:=s) (e:=e) n (br s (cB s x.p x) (aN s x.p)) (by omega)
   exact⟨a1.trans (g1.trans c1),a2.trans (g2.trans c2),by omega,a4⟩
  ·exact⟨rfl,rfl,Nat.le_refl _,hp⟩
theorem Ul{s:U}{n:Nat}{x:LS}(h0:x.ai=0)(hp:x.p<s.size)(hb:(s.get! x.p).toNat≠10):x.p<(dh s (n+1) x).p:=by
 have w1:=u9 (Nat.le_of_lt hp)
 rw[dh,if_pos ⟨h0,hp,hb⟩]
 have:=(rN (s:=s) n {cB s x.p x with p:=x.p+aN s x.p} w1.1).2.2.1
 have this:x.p+aN s x.p<=_:=this
 have:=w1.2 hp
 omega
theorem Um{s:U}{n e:Nat}{x:LS}(h0:x.ai=0)(hp:x.p<s.size)(he:x.p<e):x.p<(bV s e (n+1) x).p:=by
 have w1:=u9 (Nat.le_of_lt hp)
 rw[bV,if_pos ⟨h0,he⟩]
 obtain⟨c1,c2,c3⟩:=lK s x.p x
 obtain⟨g1,g2,g3,g4⟩:=oz s (cB s x.p x) (aN s x.p)
 have:=(jG (s:=s) (e:=e) n (br s (cB s x.p x) (aN s x.p)) (by omega)).2.2.1
 have:=w1.2 hp
 omega
abbrev Un(A:bG):List (Nat×(E (LY A)->af (Ex×E (LY A)))):=[(1,cx (eK [3,4,5]) (Lt A)),(3000086,cx (eK [86,3,4,5]) (rmC A))]
def Uo:Ex->List Nat
 | .normal=>[0,3,4,5]
 |_=>[2]
def rmT(A:bG)(bx:List Value)(X:LS)(c:Int):af (Ex×E (LY A)):=
 .aY (0<=X.bg.pos∧X.bg.pos<=(A.O.size:Int)) (.aY True
  (.aj (Lib.hasPrefix (A.O.extract X.p A.O.size).data.toList N1.data.toList)
    (.aY (cy (LY A) Tryz.f28.ntmps 1 (.loop xm) (cx (eK [3,4,5]) (Lt A)))
      (.aY (X.bg=X.bg.dL.bg∧Fit A.O X.bg.dL) (.ae (.normal,wC [3,4,5] ((dh A.O A.O.size X).bg,bx,[.val (.int .i64 X.p),.val (.int .i64 X.line),.val (.int .i64 c)])))))
    (.aY (0<=X.bg.pos∧X.bg.pos<=(A.O.size:Int)) (.aY True
      (.aY (ki (LY A) Tryz.f28.ntmps GL (cx (eK [86,3,4,5]) (rmC A)))
        (.aj (Lib.hasPrefix (A.O.extract X.p A.O.size).data.toList Jk.data.toList)
          (.aY (X.bg=X.bg.dL.bg∧Fit A.O X.bg.dL∧A.rows=true∧X.bg.dL.p+2<=A.O.size∧X.bg.dL.ai=0)
            (.aj (decide (gM (A.O.extract (X.p+2) A.O.size) ⟨#[42,47]⟩<0)) (.ae (.ret,⟨⟨{X.bg with ai:=1},bx⟩,[(2,.val (.bool true))]⟩))
              (.ae (.normal,wC [3,4,5] ((zG A.O X).bg,bx,[.val (.int .i64 X.p),.val (.int .i64 X.line),.val (.int .i64 c)])))))
          (.ae (.ret,⟨⟨X.bg,bx⟩,[(2,.val (.bool false))]⟩))))))))
theorem af3(A:bG)(X:LS)(bx:List Value):(az (xh A (uW A) Tryz.f28.ntmps (Un A) 0) (ck 3 ji) ⟨⟨X.bg,bx⟩,[(0,.st 0)]⟩).bind (fun xe=> .ae (xe.1,cU (Uo xe.1) xe.2))=
 rmT A bx X (IntKind.i64.wrap (IntKind.i64.wrap ((X.p:Int)-(X.st:Int))+1)):=by kernel_rfl
def af4(A:bG)(p:LI×List Value×List SV):af (Ex×E (LY A)):=match p.2.2 with
 |[.val (.int .i64 f),.val (.int .i64 l),.val (.int .i64 c)]=> .aY (A.rows=true∧p.1.rem.length<=8589934592∧0<=f∧f<=p.1.pos∧p.1.pos<=(A.O.size:Int))
  (.ae (.ret,⟨⟨{p.1 with rem:=p.1.rem++[⟨A.O.extract f.toNat p.1.pos.toNat,l,c⟩]},p.2.1⟩,[(2,.val (.bool true))]⟩))
 |_=> .fail
theorem YP(A:bG):At (LY A) Tryz.f28.ntmps (ah 3 ji) (wC [3,4,5]) (af4 A):=by
 refine⟨fun p bl a w Q hI hs=> ?_,fun p Q hb _=>hb.elim⟩
 obtain⟨x,bx,vs⟩:=p
 unfold af4 at hs
 split at hs
 ·rename_i f l c heq
  obtain rfl:vs=_:=heq
  obtain⟨⟨hr,h1,h2,h3,h4⟩,hq⟩:=hs
  simp only at h1 h3 h4
  have look:∀i,Ev.look (wC [3,4,5] (x,bx,[.val (.int .i64 f),.val (.int .i64 l),.val (.int .i64 c)]):E (LY A)).tm i=
   if i=0 then .st 0 else if i=3 then .val (.int .i64 f)else if i=4 then .val (.int .i64 l)else if i=5 then .val (.int .i64 c)else .jk:=fun i=>by
   show Ev.look [(0,_),(3,_),(4,_),(5,_)] i=_
   rw[aF,aF,aF,aF];rfl
  have r0:=hI.rel 0
  have r3:=hI.rel 3
  have r4:=hI.rel 4
  have r5:=hI.rel 5
  rw[look]at r0 r3 r4 r5
  have r3:a.tmps.getD 3 undef= .int .i64 f:=r3
  have r4:a.tmps.getD 4 undef= .int .i64 l:=r4
  have r5:a.tmps.getD 5 undef= .int .i64 c:=r5
  have e1:((f.toNat:Nat):Int)=f:=Int.toNat_of_nonneg h2
  have e2:((x.pos.toNat:Nat):Int)=x.pos:=Int.toNat_of_nonneg (by omega)
  refine TT (x:=x) hI.core.inv hr h1 (f:=f.toNat) (p:=x.pos.toNat) e2.symm (by omega) (by omega) hI.defers hI.size r0 (by rw[e1];exact r3) r4 r5 (fun a' w' g1 g2 g3 g4 g5=> ?_)
  exact xp (ex:= .ret) hI g1 g2 g4 g5 (DI g3) hq
 ·exact hs.elim
theorem u_{s:U}:∀(n:Nat) (x:LS),(dh s n x).rem=x.rem∧(dh s n x).line=x.line∧(dh s n x).st=x.st
 |0,x=>⟨rfl,rfl,rfl⟩
 |n+1,x=>by
  rw[dh]
  split
  ·have e:=u_ (s:=s) n {cB s x.p x with p:=x.p+aN s x.p}
   have c:(cB s x.p x).rem=x.rem∧(cB s x.p x).line=x.line∧(cB s x.p x).st=x.st:=by unfold cB;split<;>exact⟨rfl,rfl,rfl⟩
   exact⟨e.1.trans c.1,e.2.1.trans c.2.1,e.2.2.trans c.2.2⟩
  ·exact⟨rfl,rfl,rfl⟩
theorem ql{s:U}{e:Nat}:∀(n:Nat) (x:LS),(bV s e n x).rem=x.rem
 |0,x=>rfl
 |n+1,x=>by
  rw[bV]
  split
  ·rw[ql n]
   have h1:∀Y m,(br s Y m).rem=Y.rem:=fun Y m=>by unfold br;split<;>rfl
   rw[h1]
   unfold cB
   split<;>rfl
  ·rfl
theorem Up{s:U}{x:LS}(hp:x.p<=s.size):(zG s x).rem=x.rem∧x.p<=(zG s x).p∧(zG s x).p<=s.size:=by
 unfold zG
 generalize(x.p+(gM (s.extract (x.p+2) s.size) ⟨#[42,47]⟩).toNat+4)=e
 split
 ·exact⟨ql _ _,(jG (s:=s) (e:=e) s.size (cY x) hp).2.2.1,(jG (s:=s) (e:=e) s.size (cY x) hp).2.2.2⟩
 ·exact⟨ql _ _,(jG (s:=s) (e:=e) s.size x hp).2.2.1,(jG (s:=s) (e:=e) s.size x hp).2.2.2⟩
theorem OK(A:bG)(hA:A.Ok):At (LY A) Tryz.f28.ntmps ji (fun p:LS×List Value=>⟨⟨p.1.bg,p.2⟩,[(0,.st 0)]⟩)
 (fun p=> .aY (Fit A.O p.1∧A.rows=true∧p.1.p<A.O.size∧p.1.ai=0) (.ae (.ret,⟨⟨((bT A.O p.1).getD p.1).bg,p.2⟩,[(2,.val (.bool (bT A.O p.1).isSome))]⟩))):=by
 refine At.IV (qI A hA) (C:=xh A (uW A) Tryz.f28.ntmps (Un A) 0) (iD A (uX A hA) _ (Un A) 0) 3 (by kernel_rfl) (YP A) Uo (fun q Q hs=> ?_)
 obtain⟨X,bx⟩:=q
 obtain⟨⟨hf,hr,hp,bn⟩,hq⟩:=hs
 simp only at hf hp bn hq
 have hs:=hA.n1
 obtain⟨l1,l2,l3,l4,l5,l6,l7⟩:=hf.len hs
 have af5:X.rem.length<=8589934592:=by have:=hf.rem;omega
 have amE:=hf.st
 have ec:IntKind.i64.wrap (IntKind.i64.wrap ((X.p:Int)-(X.st:Int))+1)=(X.p:Int)-X.st+1:=by
  rw[aG (n:=(X.p:Int)-(X.st:Int)) (by omega) (by omega)]
  exact aG (by omega) (by omega)
 show((az _ _ _).bind _).aD _
 rw[af3,ec]
 unfold bT at hq
 simp only at hq
 refine⟨⟨l4,l5⟩,trivial,fun h1=> ?_,fun h1=> ?_⟩
 ·rw[if_pos h1]at hq
  obtain⟨a1,a2,a3,a4⟩:=rN (s:=A.O) A.O.size X (Nat.le_of_lt hp)
  obtain⟨b1,b2,b3⟩:=u_ (s:=A.O) A.O.size X
  refine⟨Yo A hA,⟨rfl,hf⟩,_,fF.refl _,⟨hr,?_,l4,?_,?_⟩,hq⟩
  ·show(dh A.O A.O.size X).rem.length<=_;rw[b1];exact af5
  ·show(X.p:Int)<=((dh A.O A.O.size X).p:Int);omega
  ·show((dh A.O A.O.size X).p:Int)<=_;omega
 ·have h1:¬Lib.hasPrefix (A.O.extract X.p A.O.size).data.toList N1.data.toList=true:=ne_true_of_eq_false h1
  rw[if_neg h1]at hq
  refine⟨⟨l4,l5⟩,trivial,GZ A hA,fun h2=> ?_,fun h2=> ?_⟩
  ·rw[if_pos h2]at hq
   have hle:=((dv (Nat.le_of_lt hp)).1 h2).le
   have hle:X.p+2<=A.O.size:=hle
   refine⟨⟨rfl,hf,hr,hle,bn⟩,fun h3=> ?_,fun h3=> ?_⟩
   ·rw[if_pos (of_decide_eq_true h3)]at hq
    exact hq
   ·rw[if_neg (of_decide_eq_false h3)]at hq
    obtain⟨b1,b2,b3⟩:=Up (s:=A.O) (x:=X) (Nat.le_of_lt hp)
    refine⟨_,fF.refl _,⟨hr,?_,l4,?_,?_⟩,hq⟩
    ·show(zG A.O X).rem.length<=_;rw[b1];exact af5
    ·show(X.p:Int)<=((zG A.O X).p:Int);omega
    ·show((zG A.O X).p:Int)<=_;omega
  ·have h2:¬Lib.hasPrefix (A.O.extract X.p A.O.size).data.toList Jk.data.toList=true:=ne_true_of_eq_false h2
   rw[if_neg h2]at hq
   exact hq
def DM(A:bG)(args:List SV)(c:aq (LY A)):af (SV×aq (LY A)):=
 match args with
 |[.st 0]=> .aY (c.st=c.st.dL.bg∧Fit A.O c.st.dL∧A.rows=true∧c.st.dL.p<A.O.size∧c.st.dL.ai=0) (.ae (.val (.bool (bT A.O c.st.dL).isSome),⟨((bT A.O c.st.dL).getD c.st.dL).bg,c.bx⟩))
 |_=> .fail
theorem JN(A:bG)(hA:A.Ok):fg (LY A) 28 #[] true (DM A):=by
 refine At.fn (Y:=LY A) Tryz.func28 (b:=ji) (by kernel_rfl) (N:=Tryz.f28.ntmps) rfl (π:=LS×List Value) (arg:=fun _=>[.st 0]) (core:=fun p=>⟨p.1.bg,p.2⟩) (fun _=>by decide) (OK A hA) (fun args c Q h=> ?_)
 unfold DM at h
 split at h
 ·obtain⟨⟨h1,h2,h3,h4,h5⟩,hq⟩:=h
  obtain⟨x,bx⟩:=c
  exact⟨(LI.dL x,bx),rfl,congrArg (fun y=>(⟨y,bx⟩:aq (LY A))) h1.symm,⟨h2,h3,h4,h5⟩,hq⟩
 ·exact h.elim
structure Lv(x:LS):Prop where
 fst:x.fst<=x.out.length
 line:x.line<=x.p+1
 st:x.st<=x.p
theorem Lv.same{x y:LS}(h:Lv x)(h1:y.fst=x.fst)(h2:y.out=x.out)(h3:y.line=x.line)(h4:y.st=x.st)(h5:x.p<=y.p):Lv y:=
 ⟨by rw[h1,h2];exact h.fst,by rw[h3];exact Nat.le_trans h.line (Nat.succ_le_succ h5),by rw[h4];exact Nat.le_trans h.st h5⟩
theorem Lv.put{s:U}{x:LS}(h:Lv x)(cls kind:Int)(f:Nat):Lv (dk s x cls kind f):=by
 refine⟨?_,h.line,h.st⟩
 show(if f≠x.stop then x.out.length else x.fst)<=(x.out++[_]).length
 have:=h.fst
 rw[List.length_append]
 split<;>omega
theorem Lv.step{s:U}{x:LS}(h:Lv x){n:Nat}(hn:1<=n):Lv (br s x n):=by
 unfold br
 have h2:=h.line
 have h3:=h.st
 split
 ·exact⟨h.fst,by show x.line+1<=x.p+n+1;omega,by show x.p+1<=x.p+n;omega⟩
 ·exact⟨h.fst,by show x.line<=x.p+n+1;omega,by show x.st<=x.p+n;omega⟩
theorem Lv.quoted{s:U}{q:Int}{f:Nat}:∀(n c:Nat) (x:LS),Lv x->Lv (bE s q f n c x)
 |0,c,x,h=>h
 |n+1,c,x,h=>by
  rw[bE]
  split
  ·split
   ·exact h.same rfl rfl rfl rfl (Nat.le_refl _)
   ·split
    ·exact h.same rfl rfl rfl rfl (Nat.le_refl _)
    ·split
     ·have h1:Lv {x with p:=x.p+1}:=h.same rfl rfl rfl rfl (Nat.le_succ _)
      split
      ·exact h1.put _ _ _
      ·split
       ·exact h1.put _ _ _
       ·exact h.same rfl rfl rfl rfl (Nat.le_succ _)
     ·split
      ·split
       ·exact h.same rfl rfl rfl rfl (Nat.le_refl _)
       ·exact Lv.quoted n _ _ (h.same rfl rfl rfl rfl (Nat.le_add_right _ _))
      ·exact Lv.quoted n _ _ (h.same rfl rfl rfl rfl (Nat.le_add_right _ _))
  ·exact h
theorem Lv.raw{s:U}{f:Nat}:∀(n:Nat) (x:LS),Lv x->Lv (eZ s f n x)
 |0,x,h=>h
 |n+1,x,h=>by
  rw[eZ]
  split
  ·exact h.same rfl rfl rfl rfl (Nat.le_refl _)
  ·rename_i hh
   have hw:1<=aN s x.p:=by
    have:=(not_or.1 hh).2
    omega
   split
   ·exact(h.step hw).put _ _ _
   ·exact Lv.raw n _ (h.step hw)
theorem YQ(l:List eP)(a:Nat)(c:Int):(K0 l a c).length=l.length:=by
 unfold K0
 cases hl:l.getLast? with
 |none=>rfl
 |some t=>
  have dH:l≠[]:=fun e=>by rw[e]at hl;cases hl
  have:=List.length_pos_iff.2 dH
  simp only[List.length_append,List.length_dropLast,List.length_cons,List.length_nil]
  omega
theorem Lv.token{s:U}{x:LS}(h:Lv x)(hp:x.p<=s.size):Lv (bR s x):=by
 have h0:∀st,Lv {x with ai:=st}:=fun st=>h.same rfl rfl rfl rfl (Nat.le_refl _)
 have h1:Lv {x with p:=x.p+1}:=h.same rfl rfl rfl rfl (Nat.le_succ _)
 unfold bR
 simp only
 split
 ·exact h0 1
 ·split
  ·exact Lv.put (x:={x with p:=bW s s.size x.p}) (h.same rfl rfl rfl rfl (zv _ _ hp).1) _ _ _
  ·split
   ·unfold jT
    simp only
    split
    ·exact h0 2
    ·exact Lv.put (x:={x with p:=fk s x.p (cD (s.extract x.p s.size)) s.size x.p}) (h.same rfl rfl rfl rfl (pF (O:=s) (f:=x.p) (hex:=cD (s.extract x.p s.size)) s.size x.p (by omega) hp).1) _ _ _
   ·split
    ·exact Lv.quoted _ _ _ h1
    ·split
     ·have:=Lv.raw (s:=s) (f:=x.p) s.size _ h1
      split
      ·exact⟨by show _<=(K0 _ _ _).length;rw[YQ];exact this.fst,this.line,this.st⟩
      ·exact this
     ·split
      ·exact h1.put _ _ _
      ·unfold mb
       split
       ·rename_i w _
        exact Lv.put (x:={x with p:=x.p+w.size}) (h.same rfl rfl rfl rfl (Nat.le_add_right _ _)) _ _ _
       ·exact h0 1
theorem Fit.lv{s:U}{x:LS}(h:Fit s x):Lv x:=⟨h.fst,h.line,h.st⟩
theorem Fit.token{s:U}{x:LS}(h:Fit s x)(h0:x.ai=0)(hp:x.p<s.size)(b0:x.p=0->(Utf8.decode s 0).1≠65279)(hy:(bR s x).ai=0):Fit s (bR s x)∧x.p<(bR s x).p:=by
 obtain⟨n,cls,kind,k1,k2,k3,k4,k5⟩:=Uj h0 hp b0 hy
 have hl:=h.lv.token (Nat.le_of_lt hp)
 obtain⟨l,c,ho⟩:=k4.out
 have qW:=h.out
 have hx:x.out.length<=2*x.p:=Nat.le_trans (Nat.le_add_right _ _) qW
 have UB:=k4.p
 refine⟨⟨by rw[UB];exact k2,hl.line,hl.st,by rw[k4.stop,UB];exact Nat.le_refl _,hl.fst,?_,?_⟩,by omega⟩
 ·rw[ho,List.length_append,UB]
  show x.out.length+1+_<=_
  split<;>omega
 ·rw[k4.rem,UB]
  have:=h.rem
  omega
theorem Fit.ZY{s:U}:∀(n:Nat) (x:LS),Fit s x->Fit s (dh s n x)
 |0,x,h=>h
 |n+1,x,h=>by
  rw[dh]
  split
  ·have hc:=h.char x.p
   have hcp:(cB s x.p x).p=x.p:=(lK s x.p x).2.2
   have w1:=(u9 h.le).1
   exact Fit.ZY n _ (hc.at (e:=x.p+aN s x.p) (by omega) w1 _)
  ·exact h
theorem Fit.over{s:U}{e:Nat}(he:e<=s.size):∀(n:Nat) (x:LS),Fit s x->Fit s (bV s e n x)
 |0,x,h=>h
 |n+1,x,h=>by
  rw[bV]
  split
  ·rename_i hh
   have hc:=h.char x.p
   have hcp:(cB s x.p x).p=x.p:=(lK s x.p x).2.2
   have w1:=u9 (s:=s) h.le
   exact Fit.over he n _ (hc.step (w1.2 (by omega)) (by rw[hcp];exact w1.1))
  ·exact h
theorem Fit.tell{s:U}{y:LS}(h:Fit s y){b:Nat}(hb:y.rem.length<=b)(bz:b<y.p)(r:Dh):Fit s {y with rem:=y.rem++[r]}:=
 ⟨h.le,h.2,h.st,h.stop,h.fst,h.out,by show(y.rem++[r]).length<=y.p;rw[List.length_append];show y.rem.length+1<=_;omega⟩
theorem Fit.zD{s:U}{x y:LS}(h:Fit s x)(h0:x.ai=0)(hp:x.p<s.size)(hr:bT s x=some y):Lv y∧(y.ai=0->Fit s y∧x.p<y.p):=by
 unfold bT at hr
 simp only at hr
 by_cases h2:Lib.hasPrefix (s.extract x.p s.size).data.toList N1.data.toList=true
 ·rw[if_pos h2,Option.some.injEq]at hr
  subst hr
  have hs:=qi.1 ((dv (Nat.le_of_lt hp)).1 h2)
  obtain⟨k,hk⟩:∃k,s.size=k+1:=⟨s.size-1,by omega⟩
  have:=Ul (n:=k) h0 hp (by rw[hs.2.1];decide)
  rw[←hk]at this
  have f:=Fit.ZY s.size x h
  have ft:=f.tell (b:=x.p) (by rw[(u_ s.size x).1];exact h.rem) this ⟨s.extract x.p (dh s s.size x).p,x.line,(x.p:Int)-x.st+1⟩
  exact⟨ft.lv,fun _=>⟨ft,this⟩⟩
 rw[if_neg h2]at hr
 by_cases hS:Lib.hasPrefix (s.extract x.p s.size).data.toList Jk.data.toList=true
 ·rw[if_pos hS]at hr
  have hle:=((dv (Nat.le_of_lt hp)).1 hS).le
  have hle:x.p+2<=s.size:=hle
  split at hr
  ·rw[Option.some.injEq]at hr
   subst hr
   exact⟨h.lv.same rfl rfl rfl rfl (Nat.le_refl _),fun hh=>by cases hh⟩
  ·rename_i G7
   rw[Option.some.injEq]at hr
   subst hr
   obtain⟨c1,_⟩:=(qg (O:=s) (a:=x.p+2) hle rfl).1 (by omega)
   obtain⟨k,hk⟩:∃k,s.size=k+1:=⟨s.size-1,by omega⟩
   generalize hX:(if(bV s (x.p+(gM (s.extract (x.p+2) s.size) ⟨#[42,47]⟩).toNat+4) s.size x).ai=0∧0<=Lib.indexByte (s.extract x.p (x.p+2+(gM (s.extract (x.p+2) s.size) ⟨#[42,47]⟩).toNat)).data.toList 10 then cY x else x)=X
   have hXp:X.p=x.p∧X.ai=x.ai∧Fit s X∧X.rem=x.rem:=by
    rw[←hX]
    split
    ·exact⟨rfl,rfl,h.lO,rfl⟩
    ·exact⟨rfl,rfl,h,rfl⟩
   have:=Um (s:=s) (n:=k) (e:=x.p+(gM (s.extract (x.p+2) s.size) ⟨#[42,47]⟩).toNat+4) (x:=X) (by omega) (by omega) (by omega)
   rw[←hk]at this
   have f:=Fit.over (s:=s) (e:=x.p+(gM (s.extract (x.p+2) s.size) ⟨#[42,47]⟩).toNat+4) (by omega) s.size X hXp.2.2.1
   have ft:=f.tell (b:=x.p) (by rw[ql,hXp.2.2.2];exact h.rem) (by omega) ⟨s.extract x.p (bV s (x.p+(gM (s.extract (x.p+2) s.size) ⟨#[42,47]⟩).toNat+4) s.size X).p,x.line,(x.p:Int)-x.st+1⟩
   exact⟨ft.lv,fun _=>⟨ft,by show x.p<(bV s _ s.size X).p;omega⟩⟩
 ·rw[if_neg hS]at hr
  cases hr
theorem Fit.blank{s:U}:∀(n:Nat) (x:LS),Fit s x->Fit s (bU s n x)∧(bU s n x).ai=x.ai∧x.p<=(bU s n x).p
 |0,x,h=>⟨h,rfl,Nat.le_refl _⟩
 |n+1,x,h=>by
  rw[bU]
  split
  ·rename_i bz
   split
   ·have h1:=Fit.blank n _ (h.lO.step (n:=1) (Nat.le_refl _) bz)
    have g:=oz s (cY x) 1
    exact⟨h1.1,h1.2.1.trans g.2.2.2,Nat.le_trans (Nat.le_trans (Nat.le_succ x.p) (Nat.le_of_eq g.2.2.1.symm)) h1.2.2⟩
   ·split
    ·have h1:=Fit.blank n _ (h.step (n:=1) (Nat.le_refl _) bz)
     have g:=oz s x 1
     exact⟨h1.1,h1.2.1.trans g.2.2.2,Nat.le_trans (Nat.le_trans (Nat.le_succ x.p) (Nat.le_of_eq g.2.2.1.symm)) h1.2.2⟩
    ·exact⟨h,rfl,Nat.le_refl _⟩
  ·exact⟨h,rfl,Nat.le_refl _⟩
theorem YR{A:bG}{s:ej (LY A)}(hs:fg (LY A) s.f s.kQ s.iR s.g)(hc:s.kQ=#[]){args:List SV}{bS:List Value}{st aO:LI}{w:World}{u:Value}(h:bj A st w)(hr:oM (LY A) [] w args bS)(hg:(s.g args ⟨st,[]⟩).aD fun p=>p=(.val u,⟨aO,[]⟩)):
 Calls Tryz.prog s.f bS.toArray w fun e w'=>e= .returned u∧bj A aO w'∧eR A w w':=by
 have:=hs args ⟨st,[]⟩ [] w bS _ hr ⟨h,rfl,List.nodup_nil,fun i b u hb=>by simp at hb,fun b hb=>by simp at hb⟩ hg
 rw[hc,Array.append_empty]at this
 refine this.mono ?_
 rintro e w' (⟨sv,c',v,dw,hq,rfl,hrel,hinv,bN,_⟩|⟨_,p,_,hb⟩)
 ·injection hq with h1 h2
  subst h1 h2
  have hrel:v=u:=hrel
  exact⟨by rw[hrel],hinv.inv,bN.fr⟩
 ·exact hb.elim
theorem G4{A:bG}(hA:A.Ok)(hr:A.rows=true){X:LS}(hf:Fit A.O X){w:World}(h:bj A X.bg w):
 Calls Tryz.prog 25 #[.pointer (some ⟨A.S,0,none⟩)] w fun en w'=>en= .returned (.tuple #[])∧bj A (bU A.O A.O.size X).bg w'∧eR A w w':=
 tX (Oh A hA) rfl (args:=[.st 0]) (bS:=[_]) h (.cons rfl .nil) ⟨⟨rfl,hf,hr⟩,rfl⟩
theorem G5{A:bG}(hA:A.Ok)(hr:A.rows=true){X:LS}(hf:Fit A.O X)(hp:X.p<A.O.size)(h0:X.ai=0){w:World}(h:bj A X.bg w):
 Calls Tryz.prog 29 #[.pointer (some ⟨A.S,0,none⟩)] w fun en w'=>en= .returned (.tuple #[])∧bj A (bR A.O X).bg w'∧eR A w w':=
 tX (Oo A hA) rfl (args:=[.st 0]) (bS:=[_]) h (.cons rfl .nil) ⟨⟨rfl,hf,hr,hp,h0⟩,rfl⟩
theorem DN{A:bG}(hA:A.Ok)(hr:A.rows=true){X:LS}(hf:Fit A.O X)(hp:X.p<A.O.size)(h0:X.ai=0){w:World}(h:bj A X.bg w):
 Calls Tryz.prog 28 #[.pointer (some ⟨A.S,0,none⟩)] w fun en w'=>en= .returned (.bool (bT A.O X).isSome)∧bj A ((bT A.O X).getD X).bg w'∧eR A w w':=
 YR (s:=⟨28,#[],true,DM A⟩) (JN A hA) rfl (args:=[.st 0]) (bS:=[_]) h (.cons rfl .nil) ⟨⟨rfl,hf,hr,hp,h0⟩,rfl⟩
theorem Uq{w:World}{base sz n m g cap:Nat}{e:TypeId}{xs:List Value}(h:w.ownsRow base e sz (.slice (some ⟨g,0,none⟩) n cap) n xs)(hm:m<=n):w.ownsRow base e sz (.slice (some ⟨g,0,none⟩) m cap) m (xs.take (m*sz)):=by
 obtain⟨h1,h2⟩:=h
 have hmul:m*sz<=n*sz:=Nat.mul_le_mul_right _ hm
 refine⟨by rw[List.length_take,h1];omega,?_⟩
 rcases h2 with⟨h2,_⟩|⟨g',NK,cur,hv,hg,r1,r2,r3,r4,r5⟩
 ·cases h2
 ·cases hv
  refine .inr ⟨g,cap,cur,rfl,hg,r1,Nat.le_trans hm r2,r3,r4,?_⟩
  rw[←r5,List.take_take,Nat.min_eq_left hmul]
theorem zJ:∀(l:List eP) (m:Nat),(flat cw l).take (m*5)=flat cw (l.take m)
 |[],m=>by simp[flat]
 |t::l,0=>by simp[flat]
 |t::l,m+1=>by
  rw[List.take_succ_cons]
  simp only[flat]
  have e:(m+1)*5=(cw t).length+m*5:=by show _=5+_;omega
  rw[e,List.take_append,Nat.add_sub_cancel_left,zJ l m]
  rw[List.take_of_length_le (Nat.le_add_right _ _)]
theorem YS{w:World}{base sz n g cap:Nat}{e:TypeId}{xs:List Value}(h:w.ownsRow base e sz (.slice (some ⟨g,0,none⟩) n cap) n xs):n<=cap:=by
 rcases h.2 with⟨h2,_⟩|⟨g',NK,cur,hv,hg,r1,r2,r3,r4,r5⟩
 ·cases h2
 ·cases hv;exact r2
theorem OL{A:bG}{X:LS}{w:World}{g cap:Nat}{vr:Value}(h:bj A X.bg w)(hr:A.rows=true)(hb:w.heap[A.S]? =some (.cells (de A.O X.bg (.slice (some ⟨g,0,none⟩) X.out.length cap) vr) 58 (0,0)))
 (o1:w.ownsRow A.base 29 5 (.slice (some ⟨g,0,none⟩) X.out.length cap) X.out.length (flat cw X.out))(o2:w.ownsRow A.base 53 3 vr X.rem.length (flat di X.rem)){m:Nat}(hm:m<=X.out.length):
 bj A ({X with out:=X.out.take m}:LS).bg (w.setCell ⟨A.S,8,none⟩ (.slice (some ⟨g,0,none⟩) m cap))∧eR A w (w.setCell ⟨A.S,8,none⟩ (.slice (some ⟨g,0,none⟩) m cap)):=by
 have hS:=h.ok.hi hr
 refine⟨⟨h.ok,h.below.setCell h.ok.lo _,⟨.slice (some ⟨g,0,none⟩) m cap,vr,by rw[aZ _ hb];rfl,fun _=>⟨?_,?_⟩⟩,fun hh=>by simpa using h.size hh⟩,ig h 8 _⟩
 ·have hl:(({X with out:=X.out.take m}:LS).bg).out.length=m:=by
   show(X.out.take m).length=m
   rw[List.length_take];omega
  rw[hl]
  have:=Uq o1 hm
  rw[zJ]at this
  exact ownsRow_setCell_below this hS _
 ·exact ownsRow_setCell_below o2 hS _
structure SL(A:bG)(vf:Value)(a:Act):Prop where
 defers:a.defers=[]
 size:a.tmps.size=94
 g5:a.tmps.getD 5 undef= .pointer (some ⟨A.S,0,none⟩)
 g6:a.tmps.getD 6 undef=vf
abbrev ed:Code:=av Tryz.f10
abbrev pG:Code:=a_ (aX ed 0)
abbrev zK:Code:=aX ed 1
abbrev LD(n:Nat):Code:=bQ (ah n zK)
theorem JO:pG= .seq (bQ pG) (.block 1 (.seq (LD 0) (.seq (LD 1) (.seq (LD 2) (.seq (LD 3) (ah 4 zK)))))):=by kernel_rfl
theorem JP:ed= .seq (bQ ed) (.seq (bQ (ah 1 ed)) (.seq (bQ (ah 2 ed)) (.seq (.block 0 (.loop pG)) (ah 4 ed)))):=by kernel_rfl
theorem acS{A:bG}{X:LS}{w:World}(h:bj A X.bg w)(h0:X.ai≠0){vf:Value}{a:Act}(hz:SL A vf a){Q:Exit->Act->World->Prop}(hQ:∀a',SL A vf a'->Q (.exit 0) a' w)(B:Code):(Code.seq (bQ pG) B).wp Tryz.prog Q a w:=by
 obtain⟨hd,hs,e5,e6⟩:=hz
 obtain⟨vo,vr,hb,_⟩:=h.jI
 have c7:w.cell? ⟨A.S,7,none⟩=some (.int .i64 X.ai):=ag hb rfl
 have dH:((X.ai:Int)==0)=false:=by simp;omega
 obtain⟨y,hy,ha⟩:=df 94 a hd hs
 rw[ha]
 rw[←hy]at e5 e6
 clear ha hy hd hs h hb
 simp only[pG,ed,bQ,av,Tryz.f10,Option.getD,aX,a_,Nat.beq,cond,List.range,List.range.loop,List.map]
 rw[e5,e6]
 go_wp2_with fail
 exact⟨rfl,rfl,rfl,rfl⟩
theorem af6{A:bG}{X:LS}{w:World}(h:bj A X.bg w)(h0:X.ai=0){vf:Value}{a:Act}(hz:SL A vf a){Q:Exit->Act->World->Prop}(B:Code)(hQ:∀a',SL A vf a'->B.wp Tryz.prog Q a' w):(Code.seq (bQ pG) B).wp Tryz.prog Q a w:=by
 obtain⟨hd,hs,e5,e6⟩:=hz
 obtain⟨vo,vr,hb,_⟩:=h.jI
 have c7:w.cell? ⟨A.S,7,none⟩=some (.int .i64 X.ai):=ag hb rfl
 have dH:((X.ai:Int)==0)=true:=by simp;omega
 obtain⟨y,hy,ha⟩:=df 94 a hd hs
 rw[ha]
 rw[←hy]at e5 e6
 clear ha hy hd hs h hb
 simp only[pG,ed,bQ,av,Tryz.f10,Option.getD,aX,a_,Nat.beq,cond,List.range,List.range.loop,List.map]
 rw[e5,e6]
 go_wp2_with fail
 exact hQ _ ⟨rfl,rfl,rfl,rfl⟩
theorem af7{A:bG}(hA:A.Ok)(hr:A.rows=true){X:LS}(hf:Fit A.O X){w:World}(h:bj A X.bg w){vf:Value}{a:Act}(hz:SL A vf a){Q:Exit->Act->World->Prop}(hQ:∀a' w',SL A vf a'->bj A (bU A.O A.O.size X).bg w'->eR A w w'->Q .normal a' w'):(LD 0).wp Tryz.prog Q a w:=by
 obtain⟨hd,hs,e5,e6⟩:=hz
 have hB:=G4 hA hr hf h
 obtain⟨y,hy,ha⟩:=df 94 a hd hs
 rw[ha]
 rw[←hy]at e5 e6
 clear ha hy hd hs h
 simp only[LD,zK,ed,bQ,ah,cO,Option.map,av,Tryz.f10,Option.getD,aX,Nat.beq,cond,List.range,List.range.loop,List.map]
 rw[e5,e6]
 go_wp2_with (go_at_call 25;refine hB.mono ?_;rintro en w' ⟨rfl,hi,qn⟩)
 exact hQ _ _ ⟨rfl,rfl,rfl,rfl⟩ hi qn
theorem Ur{A:bG}{X:LS}{w:World}(h:bj A X.bg w)(hp:X.p<A.O.size){vf:Value}{a:Act}(hz:SL A vf a){Q:Exit->Act->World->Prop}(hQ:∀a' w',SL A vf a'->bj A X.bg w'->eR A w w'->Q .normal a' w'):(LD 1).wp Tryz.prog Q a w:=by
 obtain⟨hd,hs,e5,e6⟩:=hz
 have eJ:=h.ok.n1
 obtain⟨vo,vr,hb,_⟩:=h.jI
 have c0:w.cell? ⟨A.S,0,none⟩=some (.string A.O):=ag hb rfl
 have c1:w.cell? ⟨A.S,1,none⟩=some (.int .i64 X.p):=ag hb rfl
 have hn:¬(A.O.size:Int)<=(X.p:Int):=by omega
 have He:¬A.O.size<=X.p:=by omega
 have H:=Lib.hid h
 obtain⟨y,hy,ha⟩:=df 94 a hd hs
 rw[ha]
 rw[←hy]at e5 e6
 clear ha hy hd hs h hb
 simp only[LD,zK,ed,bQ,ah,cO,Option.map,av,Tryz.f10,Option.getD,aX,Nat.beq,cond,List.range,List.range.loop,List.map]
 rw[e5,e6]
 go_wp2_with fail
 go_quiet (fail)
 go_wp2_with fail
 exact hQ _ _ ⟨rfl,rfl,rfl,rfl⟩ (H.out.kept (kb H.out (below_drewN _ _ _))) (qa (below_drewN _ _ _))
theorem OM{A:bG}(hA:A.Ok)(hr:A.rows=true){X:LS}(hf:Fit A.O X){w:World}(h:bj A X.bg w)(hp:X.p=A.O.size){vf:Value}{a:Act}(hz:SL A vf a){Q:Exit->Act->World->Prop}(hQ:∀a' w',SL A vf a'->bj A (dk A.O (cY X) 0 0 X.p).bg w'->eR A w w'->Q (.exit 0) a' w'):(LD 1).wp Tryz.prog Q a w:=by
 obtain⟨hd,hs,e5,e6⟩:=hz
 have eJ:=h.ok.n1
 obtain⟨l1,l2,l3,l4,l5,l6,l7⟩:=hf.lO.len eJ
 obtain⟨vo,vr,hb,_⟩:=h.jI
 have c0:w.cell? ⟨A.S,0,none⟩=some (.string A.O):=ag hb rfl
 have c1:w.cell? ⟨A.S,1,none⟩=some (.int .i64 X.p):=ag hb rfl
 have hn:(A.O.size:Int)<=(X.p:Int):=by omega
 have He:A.O.size<=X.p:=by omega
 have H:=Lib.hid h
 have TO:∀w',bj A (cY X).bg w'->Calls Tryz.prog 27 #[.pointer (some ⟨A.S,0,none⟩),.int .i64 0,.int .i64 0,.int .i64 (X.p:Nat)] w' fun en w2=>en= .returned (.tuple #[])∧bj A (dk A.O (cY X) 0 0 X.p).bg w2∧eR A w' w2:=fun w' hi=>by
  have:=pC hi hr l1 0 0 X.p X.p (.inl rfl) rfl (Nat.le_refl _) (by omega) l2 l3
  rw[ke]at this
  exact this
 obtain⟨y,hy,ha⟩:=df 94 a hd hs
 rw[ha]
 rw[←hy]at e5 e6
 clear ha hy hd hs h hb hp
 simp only[LD,zK,ed,bQ,ah,cO,Option.map,av,Tryz.f10,Option.getD,aX,Nat.beq,cond,List.range,List.range.loop,List.map]
 rw[e5,e6]
 go_wp2_with fail
 go_quiet (fail)
 go_wp2_with (first
  |(go_at_call 27;refine(TO _ hi).mono ?_;rintro en w3 ⟨rfl,ZV,hf3⟩)
  |(go_at_call 26;refine(zy hA hr hf (H.out.kept (kb H.out (below_drewN _ _ _)))).mono ?_;rintro en w2 ⟨rfl,hi,EE⟩;have d1:w2.cell? ⟨A.S,1,none⟩=some (.int .i64 X.p):=by(obtain⟨_,_,fm,_⟩:=hi.jI;exact ag fm rfl)))
 exact hQ _ _ ⟨rfl,rfl,rfl,rfl⟩ ZV (eR.trans (eR.trans (qa (below_drewN _ _ _)) EE) hf3)
theorem af8{A:bG}{X:LS}{w:World}(h:bj A X.bg w){vf:Value}{a:Act}(hz:SL A vf a){Q:Exit->Act->World->Prop}(hQ:∀a',SL A (.int .i64 X.p) a'->Q .normal a' w):(LD 2).wp Tryz.prog Q a w:=by
 obtain⟨hd,hs,e5,e6⟩:=hz
 obtain⟨vo,vr,hb,_⟩:=h.jI
 have c1:w.cell? ⟨A.S,1,none⟩=some (.int .i64 X.p):=ag hb rfl
 obtain⟨y,hy,ha⟩:=df 94 a hd hs
 rw[ha]
 rw[←hy]at e5 e6
 clear ha hy hd hs h hb
 simp only[LD,zK,ed,bQ,ah,cO,Option.map,av,Tryz.f10,Option.getD,aX,Nat.beq,cond,List.range,List.range.loop,List.map]
 rw[e5,e6]
 go_wp2_with fail
 exact⟨rfl,rfl,rfl,rfl⟩
theorem af9{A:bG}(hA:A.Ok)(hr:A.rows=true){X:LS}(hf:Fit A.O X)(hp:X.p<A.O.size)(h0:X.ai=0){w:World}(h:bj A X.bg w){vf:Value}{a:Act}(hz:SL A vf a){Q:Exit->Act->World->Prop}(hQ:∀a' w',SL A vf a'->bj A ((bT A.O X).getD (bR A.O X)).bg w'->eR A w w'->Q .normal a' w'):(LD 3).wp Tryz.prog Q a w:=by
 obtain⟨hd,hs,e5,e6⟩:=hz
 have hR:=DN hA hr hf hp h0 h
 have hT:=fun w' hi=>G5 hA hr hf hp h0 (w:=w') hi
 obtain⟨y,hy,ha⟩:=df 94 a hd hs
 rw[ha]
 rw[←hy]at e5 e6
 clear ha hy hd hs h
 simp only[LD,zK,ed,bQ,ah,cO,Option.map,av,Tryz.f10,Option.getD,aX,Nat.beq,cond,List.range,List.range.loop,List.map]
 rw[e5,e6]
 cases hm:bT A.O X with
 |some v=>
  rw[hm]at hR hQ
  simp only[Option.isSome_some,Option.getD_some]at hR hQ
  go_wp2_with (go_at_call 28;refine hR.mono ?_;rintro en w' ⟨rfl,hi,qn⟩)
  exact hQ _ _ ⟨rfl,rfl,rfl,rfl⟩ hi qn
 |none=>
  rw[hm]at hR hQ
  simp only[Option.isSome_none,Option.getD_none]at hR hQ
  go_wp2_with (first
   |(go_at_call 29;refine(hT _ hi).mono ?_;rintro en w2 ⟨rfl,yU,EE⟩)
   |(go_at_call 28;refine hR.mono ?_;rintro en w' ⟨rfl,hi,qn⟩))
  exact hQ _ _ ⟨rfl,rfl,rfl,rfl⟩ yU (eR.trans qn EE)
theorem YT{A:bG}(hr:A.rows=true){X:LS}{w:World}(h:bj A X.bg w){f:Nat}(hc:¬(X.ai≠0∧f=X.stop∧0<X.out.length)){a:Act}(hz:SL A (.int .i64 f) a){Q:Exit->Act->World->Prop}(hQ:∀a' vf,SL A vf a'->Q .normal a' w):(ah 4 zK).wp Tryz.prog Q a w:=by
 obtain⟨hd,hs,e5,e6⟩:=hz
 obtain⟨vo,vr,hb,eO⟩:=h.jI
 obtain⟨po,co,rfl⟩:=jE (eO hr).1
 have c5:w.cell? ⟨A.S,5,none⟩=some (.int .i64 X.stop):=ag hb rfl
 have c7:w.cell? ⟨A.S,7,none⟩=some (.int .i64 X.ai):=ag hb rfl
 have c8:w.cell? ⟨A.S,8,none⟩=some (.slice po X.out.length co):=ag hb rfl
 obtain⟨y,hy,ha⟩:=df 94 a hd hs
 rw[ha]
 rw[←hy]at e5 e6
 clear ha hy hd hs h hb eO
 simp only[zK,ed,ah,cO,Option.map,av,Tryz.f10,Option.getD,aX,Nat.beq,cond,List.range,List.range.loop,List.map]
 rw[e5,e6]
 by_cases h0:X.ai=0
 ·have k0:((X.ai:Int) != 0)=false:=by simp;omega
  clear hc
  go_wp2_with fail
  exact hQ _ _ ⟨rfl,rfl,rfl,rfl⟩
 ·have k0:((X.ai:Int) != 0)=true:=by simp;omega
  by_cases h1:f=X.stop
  ·have k1:((f:Int)==(X.stop:Int))=true:=by simp;omega
   have k2:¬(0:Int)<(X.out.length:Int):=by have:=fun h=>hc ⟨h0,h1,h⟩;omega
   have k3:¬0<X.out.length:=fun h=>hc ⟨h0,h1,h⟩
   clear hc h1
   go_wp2_with fail
   exact hQ _ _ ⟨rfl,rfl,rfl,rfl⟩
  ·have k1:((f:Int)==(X.stop:Int))=false:=by simp;omega
   clear hc
   go_wp2_with fail
   exact hQ _ _ ⟨rfl,rfl,rfl,rfl⟩
theorem YU{A:bG}(hr:A.rows=true){X:LS}(hv:X.fst<=X.out.length){w:World}(h:bj A X.bg w){f:Nat}(hc:X.ai≠0∧f=X.stop∧0<X.out.length){a:Act}(hz:SL A (.int .i64 f) a){Q:Exit->Act->World->Prop}(hQ:∀a' w' vf,SL A vf a'->bj A ({X with out:=X.out.take X.fst}:LS).bg w'->eR A w w'->Q .normal a' w'):(ah 4 zK).wp Tryz.prog Q a w:=by
 obtain⟨hd,hs,e5,e6⟩:=hz
 obtain⟨vo,vr,hb,eO⟩:=h.jI
 obtain⟨o1,o2⟩:=eO hr
 obtain⟨g,co,rfl,_,_⟩:=o1.form hc.2.2
 have c5:w.cell? ⟨A.S,5,none⟩=some (.int .i64 X.stop):=ag hb rfl
 have c6:w.cell? ⟨A.S,6,none⟩=some (.int .i64 X.fst):=ag hb rfl
 have c7:w.cell? ⟨A.S,7,none⟩=some (.int .i64 X.ai):=ag hb rfl
 have c8:w.cell? ⟨A.S,8,none⟩=some (.slice (some ⟨g,0,none⟩) X.out.length co):=ag hb rfl
 have f8:w.frozen? ⟨A.S,8,none⟩=false:=aV hb
 have zO:X.out.length<=co:=YS o1
 obtain⟨t1,t2⟩:=OL h hr hb o1 o2 hv
 have T1:=Lib.hid t1
 have T2:=Lib.hid t2
 obtain⟨h0,h1,h2⟩:=hc
 have k0:((X.ai:Int) != 0)=true:=by simp;omega
 have k1:((f:Int)==(X.stop:Int))=true:=by simp;omega
 have k2:(0:Int)<(X.out.length:Int):=by omega
 have k3:0<X.out.length:=h2
 have k4:(X.fst:Int)<=(co:Int):=by omega
 have k5:(0:Int)<=(X.fst:Int):=by omega
 have k6:X.fst<=co:=by omega
 obtain⟨y,hy,ha⟩:=df 94 a hd hs
 rw[ha]
 rw[←hy]at e5 e6
 clear ha hy hd hs h hb eO t1 t2 h1
 simp only[zK,ed,ah,cO,Option.map,av,Tryz.f10,Option.getD,aX,Nat.beq,cond,List.range,List.range.loop,List.map]
 rw[e5,e6]
 go_wp2_with fail
 refine wp_region_noPanic ?_
 go_region_law (fail)
 all_goals
  refine NoPanic.normal ?_
  exact hQ _ _ _ ⟨rfl,rfl,rfl,rfl⟩ (T1.out.kept dm) (eR.trans T2.out (hH _))
theorem vc{A:bG}(hA:A.Ok)(hr:A.rows=true){w0:World}{Q:Exit->Act->World->Prop}:∀(n:Nat) (X:LS) (vf:Value) (a:Act) (w:World),
 (X.ai=0->Fit A.O X∧A.O.size+1<=X.p+n∧(X.p=0->(Utf8.decode A.O 0).1≠65279))->SL A vf a->bj A X.bg w->eR A w0 w->
 (∀vf a' w',SL A vf a'->bj A (fD A.O n X).bg w'->eR A w0 w'->Q .normal a' w')->Code.rounds Tryz.prog pG (Exit.inBlock 0 Q) (n+1) a w
 |n,X,vf,a,w,hX,hz,hi,hf,hQ=>by
  rw[rounds_succ,JO]
  by_cases h0:X.ai=0
  ·obtain⟨fit,hn,b0⟩:=hX h0
   cases n with
   |zero=>have:=fit.le;omega
   |succ n=>
    obtain⟨g1,g2,g3⟩:=Fit.blank A.O.size X fit
    obtain⟨m1,m2,m3⟩:(fD A.O (n+1) X)=(if(iC A.O X).2=true then(iC A.O X).1 else fD A.O n (iC A.O X).1)∧True∧True:=⟨by rw[fD,if_pos h0],trivial,trivial⟩
    rw[m1]at hQ
    clear m1
    unfold iC at hQ
    simp only at hQ
    refine af6 hi h0 hz _ (fun a1 z1=> ?_)
    refine wp_block (wp_seq (af7 hA hr fit hi z1 (fun a2 w2 z2 i2 f2=> ?_)))
    generalize bU A.O A.O.size X=Z at*
    have Eh:Z.ai=0:=g2.trans h0
    have f3:=eR.trans hf f2
    by_cases oJ:A.O.size<=Z.p
    ·rw[if_pos oJ]at hQ
     simp only[if_true]at hQ
     refine wp_seq (OM hA hr g1 i2 (Nat.le_antisymm g1.le oJ) z2 (fun a3 w3 z3 i3 f4=> ?_))
     exact hQ _ _ _ z3 i3 (eR.trans f3 f4)
    ·rw[if_neg oJ]at hQ
     refine wp_seq (Ur i2 (by omega) z2 (fun a3 w3 z3 i3 f4=> ?_))
     refine wp_seq (af8 i3 z3 (fun a4 z4=> ?_))
     refine wp_seq (af9 hA hr g1 (by omega) Eh i3 z4 (fun a5 w5 z5 i5 f5=> ?_))
     have f6:=eR.trans (eR.trans f3 f4) f5
     have hY:Lv ((bT A.O Z).getD (bR A.O Z))∧(((bT A.O Z).getD (bR A.O Z)).ai=0->Fit A.O ((bT A.O Z).getD (bR A.O Z))∧Z.p<((bT A.O Z).getD (bR A.O Z)).p):=by
      cases hm:bT A.O Z with
      |some v=>exact g1.zD Eh (by omega) hm
      |none=>exact⟨g1.lv.token (by omega),fun hh=>g1.token Eh (by omega) (fun e=>b0 (by omega)) hh⟩
     generalize(bT A.O Z).getD (bR A.O Z)=Y at*
     by_cases hd:Y.ai≠0∧Z.p=Y.stop∧0<Y.out.length
     ·rw[if_pos hd]at hQ
      simp only[if_neg (show¬(false=true)by decide)]at hQ
      refine YU hr hY.1.fst i5 hd z5 (fun a6 w6 vf6 z6 i6 f7=> ?_)
      exact vc hA hr n ({Y with out:=Y.out.take Y.fst}:LS) vf6 a6 w6 (fun hh=>absurd hh hd.1) z6 i6 (eR.trans f6 f7) hQ
     ·rw[if_neg hd]at hQ
      simp only[if_neg (show¬(false=true)by decide)]at hQ
      refine YT hr i5 hd z5 (fun a6 vf6 z6=> ?_)
      exact vc hA hr n Y vf6 a6 w5 (fun hh=>⟨(hY.2 hh).1,by have:=(hY.2 hh).2;omega,fun e=>by have:=(hY.2 hh).2;omega⟩) z6 i5 f6 hQ
  ·refine acS hi h0 hz (fun a1 z1=> ?_) _
   have e:fD A.O n X=X:=nr n X h0
   rw[e]at hQ
   exact hQ _ _ _ z1 hi hf
def lxA(w:World)(ea:Addr)(O:U):bG:=⟨w,ea,w.heap.size,w.heap.size+1,O,true⟩
def Us(p:Nat):LS:=⟨p,1,0,false,0,0,0,[],[]⟩
theorem ZZ{w:World}{ea:Addr}{O:U}(hG:oU w ea)(hn:O.size<=2147483647):(lxA w ea O).Ok:=⟨hG,hn,Nat.le_refl _,fun _=>Nat.lt_succ_self _⟩
theorem Ut{w:World}{ea:Addr}{O:U}(hG:oU w ea)(hn:O.size<=2147483647)(p:Nat):bj (lxA w ea O) (Us p).bg (w.alloc (.cells (de O (Us p).bg (.slice none 0 0) (.slice none 0 0)) 58)):=
 ⟨ZZ hG hn,(Below.refl _ _).alloc (Nat.le_refl _) _,⟨_,_,heap_alloc_new w _,fun _=>⟨⟨rfl,.inl ⟨rfl,rfl⟩⟩,⟨rfl,.inl ⟨rfl,rfl⟩⟩⟩⟩,fun _=>by show w.heap.size+1<=_;simp⟩
theorem Uu{w:World}{ea:Addr}{O:U}(hG:oU w ea)(hn:O.size<=2147483647)(B:Code){Q:Exit->Act->World->Prop}
 (hQ:∀a w' vf,SL (lxA w ea O) vf a->bj (lxA w ea O) (Gh O).bg w'->Below w.heap.size w w'->B.wp Tryz.prog Q a w'):
 (Code.seq (bQ ed) (.seq (bQ (ah 1 ed)) (.seq (bQ (ah 2 ed)) B))).wp Tryz.prog Q {tmps:=#[.string O]++Array.replicate 93 undef,defers:=[]} w:=by
 have hi:=Ut hG hn 0
 have hB:Below w.heap.size w (w.alloc (.cells (de O (Us 0).bg (.slice none 0 0) (.slice none 0 0)) 58)):=(Below.refl _ _).alloc (Nat.le_refl _) _
 have ZV:=Ut hG hn 3
 have AO:Below w.heap.size w (w.alloc (.cells (de O (Us 3).bg (.slice none 0 0) (.slice none 0 0)) 58)):=(Below.refl _ _).alloc (Nat.le_refl _) _
 have hP:=fun w'=>Tryz.strings_HasPrefix O ⟨#[239,187,191]⟩ w'
 have e:(Gh O).bg=(Us (if Lib.hasPrefix O.data.toList Gg.data.toList=true then 3 else 0)).bg:=rfl
 rw[e]at hQ
 unfold Gg at hQ
 have H:=Lib.hid hi
 have H3:=Lib.hid ZV
 have HB:=Lib.hid hB
 have HB3:=Lib.hid AO
 clear hi ZV hB AO e
 simp only[ed,bQ,ah,cO,Option.map,av,Tryz.f10,Option.getD,Array.replicate_succ,Array.replicate_zero,List.push_toArray,List.append_toArray,List.nil_append,List.cons_append]
 cases hb:Lib.hasPrefix O.data.toList (⟨#[239,187,191]⟩:U).data.toList with
 |true=>
  rw[hb]at hP hQ
  simp only[if_true]at hQ
  go_wp2_with (go_at_call 24;refine(hP _).mono ?_;rintro en w' ⟨rfl,rfl⟩)
  exact hQ _ _ _ ⟨rfl,rfl,rfl,rfl⟩ H3.out HB3.out
 |false=>
  rw[hb]at hP hQ
  simp only[if_neg (show¬(false=true)by decide)]at hQ
  go_wp2_with (go_at_call 24;refine(hP _).mono ?_;rintro en w' ⟨rfl,rfl⟩)
  exact hQ _ _ _ ⟨rfl,rfl,rfl,rfl⟩ H.out HB.out
theorem acT{a:Act}{w:World}{v2 v3 v4:Value}(h2:a.tmps[2]? =some v2)(h3:a.tmps[3]? =some v3)(h4:a.tmps[4]? =some v4):(results Tryz.f10 a.tmps).run Tryz.prog w= .ok (.tuple #[v2,v3,v4]) w:=by
 have e:(Tryz.f10).results=#[.tmp 2,.tmp 3,.tmp 4]:=by kernel_rfl
 simp[results,e,h2,h3,h4,go_sem]
theorem YV{A:bG}{X:LS}{w:World}(h:bj A X.bg w){vf:Value}{a:Act}(hz:SL A vf a){vo vr:Value}(hb:w.heap[A.S]? =some (.cells (de A.O X.bg vo vr) 58 (0,0))){Q:Exit->Act->World->Prop}(hQ:∀a' w',a'.defers=[]->a'.tmps[2]? =some vo->a'.tmps[3]? =some vr->a'.tmps[4]? =some (.int .i64 X.ai)->Below w.heap.size w w'->Q .ret a' w'):(ah 4 ed).wp Tryz.prog Q a w:=by
 obtain⟨hd,hs,e5,e6⟩:=hz
 have c7:w.cell? ⟨A.S,7,none⟩=some (.int .i64 X.ai):=ag hb rfl
 have c8:w.cell? ⟨A.S,8,none⟩=some vo:=ag hb rfl
 have c9:w.cell? ⟨A.S,9,none⟩=some vr:=ag hb rfl
 obtain⟨y,hy,ha⟩:=df 94 a hd hs
 rw[ha]
 rw[←hy]at e5 e6
 clear ha hy hd hs h hb
 simp only[ed,ah,cO,Option.map,av,Tryz.f10,Option.getD,List.range,List.range.loop,List.map]
 rw[e5,e6]
 go_wp2_with fail
 go_quiet (fail)
 go_wp2_with fail
 exact hQ _ _ rfl rfl rfl rfl (below_drewN _ _ _)
theorem ON{O:U}:Fit O (Gh O):=by
 obtain⟨b1,b2,_⟩:=xq O
 refine⟨by rw[b1];exact b2,?_,Nat.zero_le _,Nat.zero_le _,Nat.le_refl _,?_,Nat.zero_le _⟩
 ·show 1<=_;omega
 ·show 0+0<=_;omega
theorem Uv{w:World}{ea:Addr}{O:U}(hG:oU w ea)(hn:O.size<=2147483647):
 Calls Tryz.prog 10 #[.string O] w fun en w'=>∃po co pr cr,en= .returned (.tuple #[.slice po (rC O).out.length co,.slice pr (rC O).rem.length cr,.int .i64 (rC O).ai])∧
  w'.ownsRow w.heap.size 29 5 (.slice po (rC O).out.length co) (rC O).out.length (flat cw (rC O).out)∧
  w'.ownsRow w.heap.size 53 3 (.slice pr (rC O).rem.length cr) (rC O).rem.length (flat di (rC O).rem)∧Below w.heap.size w w':=by
 refine calls_of_wp Tryz.func10 (c:=ed) (by kernel_rfl) ?_
 have yV:(Tryz.f10).ntmps-(#[.string O]:Array Value).size=93:=by kernel_rfl
 rw[yV,JP]
 refine Uu hG hn _ (fun a w1 vf z i b=> ?_)
 obtain⟨b1,b2,b3⟩:=xq O
 refine wp_seq (wp_block (wp_loop_rounds (O.size+1+1) ?_))
 refine vc (ZZ hG hn) rfl (w0:=w1) (O.size+1) (Gh O) vf a w1 (fun _=>⟨ON,by show O.size+1<=_;omega,fun e=>b3 (by omega)⟩) z i (Fr.refl _ _ _) (fun vf2 a2 w2 z2 i2 f2=> ?_)
 have i2:bj (lxA w ea O) (rC O).bg w2:=i2
 obtain⟨vo,vr,hb,eO⟩:=i2.jI
 obtain⟨o1,o2⟩:=eO rfl
 obtain⟨po,co,rfl⟩:=jE o1
 obtain⟨pr,cr,rfl⟩:=jE o2
 have nF:Below w.heap.size w w2:=i2.below
 show(ah 4 ed).wp _ _ a2 w2
 refine YV i2 z2 hb (fun a3 w3 d0 d2 d3 d4 b4=>⟨d0,_,acT d2 d3 d4,po,co,pr,cr,rfl,?_,?_,nF.trans (fJ b4 nF.size)⟩)
 ·exact pv (iH b4 o1) (Nat.le_succ _)
 ·exact pv (iH b4 o2) (Nat.le_succ _)
end
end Sc
end Go.Proofs.YtogkcphobhhbdaaGreatDoor
namespace Go.Proofs.YtogkcphobhhbdaaGreatDoor
open Go Go.RowKit Go.Lib Go.Shelf
namespace Sc
set_option maxRecDepth 100000
noncomputable section
def DO:Go.Shelf.Ren:=⟨fun n=>n,fun|3=>3|49=>139|51=>109|141=>112|196=>138|193=>135|194=>136|198=>141|201=>144|5=>5|119=>110|138=>133|139=>134|n=>n,fun|3=>7|4=>8|n=>n⟩
theorem aga:RTypes Tryz.prog DO:=⟨Tryz.underlying3,Tryz.underlying139,Tryz.underlying109,Tryz.underlying112,Tryz.underlying135,Tryz.underlying136,Tryz.underlying138,Tryz.underlying141,Tryz.underlying144⟩
theorem agb:RExtra Tryz.prog DO:=⟨by kernel_rfl,by kernel_rfl,by kernel_rfl,by kernel_rfl,by kernel_rfl,by kernel_rfl,by kernel_rfl,by kernel_rfl⟩
theorem u8R:U8Types Tryz.prog DO:=⟨Tryz.underlying5,Tryz.underlying110,Tryz.underlying133,Tryz.underlying134⟩
theorem u8X:U8Extra Tryz.prog DO:=⟨by kernel_rfl,by kernel_rfl,by kernel_rfl,by kernel_rfl,by kernel_rfl,by kernel_rfl,by kernel_rfl⟩
theorem acU(u:TypeId)(h:Tryz.prog.typeName? 3 u=some "*errors.errorString"):u=165:=
 typeName_ptr_named (nm:= "errors.errorString") (by rw[show "*" ++ "errors.errorString" = "*errors.errorString" by rfl];kernel_rfl) (by kernel_rfl) (by decide) u (by rw[show "*" ++ "errors.errorString" = "*errors.errorString" by rfl];exact h)
theorem zL{W:World}{name:String}{g:Nat}{t e:TypeId}{n:Nat}{zs:List Int}(hg:Tryz.prog.globalNamed name=some g)(hy:(Tryz.prog.globals[g]?).map (·.type)=some t)(ht:Tryz.prog.underlying t=some (.array n e))(he:Tryz.prog.underlying e=some (.int .u8))(hce:Tryz.prog.cellsOf e=1)(hct:Tryz.prog.cellsOf t=n)
 (h:VarReads Tryz.prog W name (tabData .u8 zs)):TabIs Tryz.prog W name .u8 zs:=by
 obtain⟨g',t',cs,fuel,p,hg',xT,JQ,hd⟩:=h
 obtain rfl:=Option.some.inj (hg.symm.trans hg')
 obtain rfl:=Option.some.inj (hy.symm.trans xT)
 have L3:=cells_of_tab ht he hce hct hd
 unfold TabIs
 rw[JQ,←L3]
def acV:List Int:=[0,3,7,14,16,19,23,24,26,28,29,30,31,32,33,34,35,36,37,38,39,42,47,51,55,60,68,75,80,84,95,98,102,104,108,110,116,125,128,135,140,146,152,158,164,168,171,171]
def agc:List Int:=[0,1,2,4,5,7,9,11,13,14,16,17,19,20,21,22,23,24,25,26,27,29,31,33]
theorem YW{W:World}(h:laidMet Tryz.prog Rows.fnScanRow.laid W):∃ea,oU W ea:=by
 have rd:∀{n:String} {d:DataW Unit},(n,d)∈Rows.fnScanRow.laid->VarReads Tryz.prog W n d:=fun hm=>Lib.laidMet.reads h hm
 have h5:=h.tail.tail.tail.tail
 obtain⟨ea,s,hv,_,_,_⟩:=laid_sentinel (n:= "io.EOF") (nm:= "*errors.errorString") (text:=[69,79,70]) h5 (g:=6) (by kernel_rfl) (by kernel_rfl) Tryz.underlying83 acU Tryz.underlying165 Tryz.underlying181 rfl rfl Tryz.underlying9 (by kernel_rfl) (by kernel_rfl)
 have mem:∀i x,Rows.fnScanRow.laid[i]? =some x->x∈Rows.fnScanRow.laid:=fun i x hx=>List.mem_of_getElem? hx
 have r3:=rd (mem 3 ("unicode/utf8.acceptRanges",Rows.laid_unicode_utf8_acceptRanges) rfl)
 have r6:=rd (mem 6 ("unicode.properties",Rows.laid_unicode_properties) rfl)
 have r7:=rd (mem 7 (_,Rows.laid_loop_example_pub_g03120_pub_gosyntax_Operator_index) rfl)
 have r8:=rd (mem 8 (_,Rows.laid_loop_example_pub_g03120_pub_gosyntax_token_index) rfl)
 have r9:=rd (mem 9 ("unicode.Digit",Rows.laid_unicode_Digit) rfl)
 have r10:=rd (mem 10 ("unicode.Letter",Rows.laid_unicode_Letter) rfl)
 have r11:=rd (mem 11 ("unicode/utf8.first",Rows.laid_unicode_utf8_first) rfl)
 have e3:(Rows.laid_unicode_utf8_acceptRanges:DataW Unit)=acceptData:=by kernel_rfl
 have e6:(Rows.laid_unicode_properties:DataW Unit)=tabData .u8 propertiesTab:=by kernel_rfl
 have e7:(Rows.laid_loop_example_pub_g03120_pub_gosyntax_Operator_index:DataW Unit)=tabData .u8 agc:=by kernel_rfl
 have e8:(Rows.laid_loop_example_pub_g03120_pub_gosyntax_token_index:DataW Unit)=tabData .u8 acV:=by kernel_rfl
 rw[e3]at r3
 rw[e6]at r6
 rw[e7]at r7
 rw[e8]at r8
 have r9':VarReads Tryz.prog W "unicode.Digit" (rtabData digitT):=Pinned.digit_eq▸r9
 have aiK:VarReads Tryz.prog W "unicode.Letter" (rtabData letterT):=Pinned.letter_eq▸r10
 have aiL:VarReads Tryz.prog W "unicode/utf8.first" firstData:=Pinned.utf8First_eq▸r11
 have t7:=zL (g:=1) (t:=108) (by kernel_rfl) (by kernel_rfl) Tryz.underlying108 Tryz.underlying5 (by kernel_rfl) (by kernel_rfl) r7
 have t8:=zL (g:=0) (t:=107) (by kernel_rfl) (by kernel_rfl) Tryz.underlying107 Tryz.underlying5 (by kernel_rfl) (by kernel_rfl) r8
 have t6:=zL (g:=3) (t:=110) (by kernel_rfl) (by kernel_rfl) Tryz.underlying110 Tryz.underlying5 (by kernel_rfl) (by kernel_rfl) r6
 have r1:=rd (mem 1 ("math/bits.deBruijn64tab",Rows.laid_math_bits_deBruijn64tab) rfl)
 refine⟨ea,?_,?_,t6,?_,?_,?_,?_,?_⟩
 ·have:=World.var?_cell (show Tryz.prog.globalNamed "io.EOF" =some 6 by kernel_rfl) hv 0
  simpa using this
 ·exact utf8Tabs_of_readsT u8R u8X aiL r3
 ·exact rvar_of_readsT aga agb (name:= "unicode.Letter") (g:=4) (by kernel_rfl) (by kernel_rfl) aiK
 ·exact rvar_of_readsT aga agb (name:= "unicode.Digit") (g:=5) (by kernel_rfl) (by kernel_rfl) r9'
 ·exact fun i hi=>t8.cell (by kernel_rfl) i hi
 ·exact fun i hi=>t7.cell (by kernel_rfl) i hi
 ·obtain⟨g',t',cs,fuel,p,hg',xT,JQ,hd⟩:=r1
  obtain rfl:=Option.some.inj ((show Tryz.prog.globalNamed "math/bits.deBruijn64tab" =some 12 by kernel_rfl).symm.trans hg')
  unfold World.var? at JQ
  rw[hg']at JQ
  simp only[Option.bind_some]at JQ
  cases hh:W.heap[12]? with
  |none=>rw[hh]at JQ;cases JQ
  |some o=>exact(Array.getElem?_eq_some_iff.1 hh).1
end
end Sc
end Go.Proofs.YtogkcphobhhbdaaGreatDoor
