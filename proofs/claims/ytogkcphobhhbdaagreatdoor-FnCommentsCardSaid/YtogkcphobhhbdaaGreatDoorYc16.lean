/- The scanner of the program told as plain functions, part 16: texts joined and shortened by a program (wip/tools/mini.py). -/
import Derived.Test.YtogkcphobhhbdaaGreatDoorYc15
set_option linter.unusedVariables false
set_option linter.unusedSimpArgs false
set_option maxHeartbeats 32000000
namespace Go.Proofs.YtogkcphobhhbdaaGreatDoor
open Go Go.RowKit Go.Lib
namespace Sc
open Ev
set_option maxRecDepth 100000
noncomputable section
abbrev Dv:Code:=a_ (aX (av Tryz.f41) 0)
def Dw(A:bG)(bx:List Value)(f:Int)(h:Bool)(x:LI):E (LY A):=⟨⟨x,bx⟩,[(0,.st 0),(2,.val (.int .i64 f)),(3,.val (.bool h))]⟩
def Dx(b:Int):Int:=IntKind.u8.wrap ↑(BitVec.ofInt IntKind.u8.bits b|||BitVec.ofInt IntKind.u8.bits 32).toNat
def X1{α:Type}(b:Int)(n e:α):af α:=
 .aj (b != 46) (.aj (b != 95) (.aY True (.aj (!(decide (48<=b)&&decide (b<=57))) (.aj (decide (Dx b>=97)) (.aj (!decide (Dx b<=122)) (.ae e) (.ae n)) (.ae e)) (.ae n))) (.ae n)) (.ae n)
def nmP{α:Type}(h:Bool)(b L:Int)(n e:α):af α:= .aj (L==112) (.aj (!h) (X1 b n e) (.ae n)) (X1 b n e)
def nmS{α:Type}(h:Bool)(b L:Int)(n e:α):af α:= .aj (L==101) (.aj (!h) (.ae n) (nmP h b L n e)) (nmP h b L n e)
def nmG{α:Type}(h:Bool)(b L:Int)(n e:α):af α:= .aj (b==43) (nmS h b L n e) (.aj (b==45) (nmS h b L n e) (X1 b n e))
def nmT(A:bG)(bx:List Value)(f:Int)(h:Bool)(x:LI):af (Ex×E (LY A)):=
 .aj (decide (x.pos<(A.O.size:Int)))
  (.aY (0<=x.pos∧x.pos.toNat<A.O.size)
    (.aj (decide (x.pos>f))
      (.aY (0<=IntKind.i64.wrap (x.pos-1)∧(IntKind.i64.wrap (x.pos-1)).toNat<A.O.size)
        (nmG h (A.O.get! x.pos.toNat).toNat (Dx (A.O.get! (IntKind.i64.wrap (x.pos-1)).toNat).toNat) (.normal,Dw A bx f h {x with pos:=IntKind.i64.wrap (x.pos+1)}) (.exit 0,Dw A bx f h x)))
      (nmG h (A.O.get! x.pos.toNat).toNat 0 (.normal,Dw A bx f h {x with pos:=IntKind.i64.wrap (x.pos+1)}) (.exit 0,Dw A bx f h x))))
  (.ae (.exit 0,Dw A bx f h x))
theorem X2(A:bG)(bx:List Value)(f:Int)(h:Bool)(x:LI):(az (xh A (f_ A) Tryz.f41.ntmps [] 0) Dv (Dw A bx f h x)).bind (fun xe=> .ae (xe.1,cU [0,2,3] xe.2))=nmT A bx f h x:=by kernel_rfl
def O0(h:Bool)(b o L:Int):Prop:=((b=43∨b=45)∧((L=101∧h=false)∨(L=112∧h=true)))∨b=46∨b=95∨(48<=b∧b<=57)∨(97<=o∧o<=122)
theorem zw{α:Type}{h:Bool}{b L:Int}{n e:α}{Q:α->Prop}(hC:¬((b=43∨b=45)∧((L=101∧h=false)∨(L=112∧h=true))))(h1:O0 h b (Dx b) L->Q n)(h2:¬O0 h b (Dx b) L->Q e):(X1 b n e).aD Q:=by
 refine⟨fun q1=>⟨fun q2=>⟨trivial,fun q3=>⟨fun q4=>⟨fun q5=>h2 ?_,fun q5=>h1 ?_⟩,fun q4=>h2 ?_⟩,fun q3=>h1 ?_⟩,fun q2=>h1 ?_⟩,fun q1=>h1 ?_⟩
 ·simp at q1 q2 q3 q4 q5
  rintro(h|h|h|h|h)
  ·exact hC h
  ·exact q1 h
  ·exact q2 h
  ·omega
  ·omega
 ·simp at q4 q5
  exact .inr (.inr (.inr (.inr ⟨q4,q5⟩)))
 ·simp at q1 q2 q3 q4
  rintro(h|h|h|h|h)
  ·exact hC h
  ·exact q1 h
  ·exact q2 h
  ·omega
  ·omega
 ·simp at q3
  exact .inr (.inr (.inr (.inl q3)))
 ·simp at q2
  exact .inr (.inr (.inl q2))
 ·simp at q1
  exact .inr (.inl q1)
theorem Lf{α:Type}{h:Bool}{b L:Int}{n e:α}{Q:α->Prop}(hb:b=43∨b=45)(hL:¬(L=101∧h=false))(h1:O0 h b (Dx b) L->Q n)(h2:¬O0 h b (Dx b) L->Q e):(nmP h b L n e).aD Q:=by
 refine⟨fun q1=>⟨fun q2=>zw (h:=h) (L:=L) ?_ h1 h2,fun q2=>h1 ?_⟩,fun q1=>zw (h:=h) (L:=L) ?_ h1 h2⟩
 ·simp at q2
  rintro⟨_,hh|hh⟩
  ·exact hL hh
  ·rw[q2]at hh;exact absurd hh.2 (by decide)
 ·simp at q1 q2
  exact .inl ⟨hb,.inr ⟨q1,q2⟩⟩
 ·simp at q1
  rintro⟨_,hh|hh⟩
  ·exact hL hh
  ·exact q1 hh.1
theorem Lg{α:Type}{h:Bool}{b L:Int}{n e:α}{Q:α->Prop}(hb:b=43∨b=45)(h1:O0 h b (Dx b) L->Q n)(h2:¬O0 h b (Dx b) L->Q e):(nmS h b L n e).aD Q:=by
 refine⟨fun q1=>⟨fun q2=>h1 ?_,fun q2=>Lf hb ?_ h1 h2⟩,fun q1=>Lf hb ?_ h1 h2⟩
 ·simp at q1 q2
  exact .inl ⟨hb,.inl ⟨q1,q2⟩⟩
 ·simp at q2
  rintro⟨_,hh⟩
  rw[q2]at hh;cases hh
 ·simp at q1
  exact fun hh=>q1 hh.1
theorem Lh{α:Type}{h:Bool}{b L:Int}{n e:α}{Q:α->Prop}(h1:O0 h b (Dx b) L->Q n)(h2:¬O0 h b (Dx b) L->Q e):(nmG h b L n e).aD Q:=by
 refine⟨fun q1=>Lg (.inl (by simpa using q1)) h1 h2,fun q1=>⟨fun q2=>Lg (.inr (by simpa using q2)) h1 h2,fun q2=>zw (h:=h) (L:=L) ?_ h1 h2⟩⟩
 simp at q1 q2
 rintro⟨hh|hh,_⟩
 ·exact q1 hh
 ·exact q2 hh
theorem X3:((List.range 256).all fun n=>Dx (n:Nat)==((n|||32:Nat):Int))=true:=by kernel_rfl
theorem Li(b:UInt8):Dx b.toNat=((b.toNat|||32:Nat):Int):=by
 have:=List.all_eq_true.1 X3 b.toNat (List.mem_range.2 (UInt8.toNat_lt b))
 simpa using this
def Dy(s:U)(f:Nat)(hex:Bool)(p:Nat):Prop:=
 (((s.get! p).toNat=43∨(s.get! p).toNat=45)∧(((if f<p then(s.get! (p-1)).toNat|||32 else 0)=101∧hex=false)∨((if f<p then(s.get! (p-1)).toNat|||32 else 0)=112∧hex=true)))∨(s.get! p).toNat=46∨(s.get! p).toNat=95∨qt (s.get! p)=true∨(97<=(s.get! p).toNat|||32∧(s.get! p).toNat|||32<=122)
theorem GF{s:U}{f:Nat}{hex:Bool}{p:Nat}:O0 hex (s.get! p).toNat (Dx (s.get! p).toNat) (if f<p then Dx (s.get! (p-1)).toNat else 0)↔Dy s f hex p:=by
 have e:(if f<p then Dx (s.get! (p-1)).toNat else 0)=(((if f<p then(s.get! (p-1)).toNat|||32 else 0:Nat)):Int):=by
  split
  ·exact Li _
  ·rfl
 rw[e,Li]
 unfold O0 Dy qt
 generalize(if f<p then(s.get! (p-1)).toNat|||32 else 0)=L
 generalize(s.get! p).toNat=b
 generalize b|||32=o
 simp only[Bool.and_eq_true,decide_eq_true_eq]
 constructor
 ·rintro(⟨h1,h2⟩|h)
  ·exact .inl ⟨by omega,h2.elim (fun h2=> .inl ⟨by omega,h2.2⟩) (fun h2=> .inr ⟨by omega,h2.2⟩)⟩
  ·exact .inr (by omega)
 ·rintro(⟨h1,h2⟩|h)
  ·exact .inl ⟨by omega,h2.elim (fun h2=> .inl ⟨by omega,h2.2⟩) (fun h2=> .inr ⟨by omega,h2.2⟩)⟩
  ·exact .inr (by omega)
theorem GG{s:U}{f:Nat}{hex:Bool}{n p:Nat}(hp:p<s.size)(h:Dy s f hex p):fk s f hex (n+1) p=fk s f hex n (p+1):=by
 rw[fk,if_pos hp];exact if_pos h
theorem Lj{s:U}{f:Nat}{hex:Bool}{n p:Nat}(h:¬(p<s.size∧Dy s f hex p)):fk s f hex n p=p:=by
 cases n with
 |zero=>rfl
 |succ n=>
  rw[fk]
  split
  ·rename_i hp;exact if_neg (fun hh=>h ⟨hp,hh⟩)
  ·rfl
theorem X4(A:bG)(hA:A.Ok)(bx:List Value)(f:Nat)(h:Bool):At (LY A) Tryz.f41.ntmps (.block 0 (.loop Dv)) (fun p:LS×Nat=>Dw A bx f h p.1.bg)
 (fun p=> .aY (Fit A.O p.1∧A.O.size<=p.1.p+p.2) (.ae (.normal,Dw A bx f h (LS.bg {p.1 with p:=fk A.O f h p.2 p.1.p})))):=by
 refine At.det rI (fun p:LS×Nat=>Fit A.O p.1∧A.O.size<=p.1.p+p.2) (fun p=>p.2) (fun p=>(.normal,Dw A bx f h (LS.bg {p.1 with p:=fk A.O f h p.2 p.1.p})))
  (At.same (C:=xh A (f_ A) Tryz.f41.ntmps [] 0) (qI A hA) (iD A (fE A hA) _ [] 0) (fun _=>[0,2,3]) (fun p=>X2 A bx f h p.1.bg)) ?_
 rintro⟨x,n⟩ ⟨hf,hn⟩
 have hs:=hA.n1
 simp only at hf hn
 have hx:=hf.le
 have out:¬(x.p<A.O.size∧Dy A.O f h x.p)->iq 0 ((.exit 0,Dw A bx f h x.bg):Ex×E (LY A))=(.normal,Dw A bx f h (LS.bg {x with p:=fk A.O f h n x.p})):=fun hh=>by
  rw[Lj hh];rfl
 have go:x.p<A.O.size->Dy A.O f h x.p->∃p':LS×Nat,Dw A bx f h {x.bg with pos:=IntKind.i64.wrap ((x.p:Int)+1)}=Dw A bx f h p'.1.bg∧p'.2<n∧(Fit A.O p'.1∧A.O.size<=p'.1.p+p'.2)∧
  ((Ex.normal,Dw A bx f h (LS.bg {p'.1 with p:=fk A.O f h p'.2 p'.1.p})):Ex×E (LY A))=(.normal,Dw A bx f h (LS.bg {x with p:=fk A.O f h n x.p})):=fun hp hc=>by
  have ew:IntKind.i64.wrap ((x.p:Int)+1)=((x.p+1:Nat):Int):=aG (by omega) (by omega)
  rw[ew]
  refine⟨({x with p:=x.p+1},n-1),rfl,by show n-1<n;omega,⟨hf.at (Nat.le_add_right _ _) hp x.ai,by show _<=x.p+1+(n-1);omega⟩,?_⟩
  cases n with
  |zero=>omega
  |succ n=>rw[GG hp hc];rfl
 refine⟨fun h1=> ?_,fun h1=> .inr ⟨by simp,out (fun hh=> ?_)⟩⟩
 ·have hp:x.p<A.O.size:=by
   have:(x.p:Int)<A.O.size:=of_decide_eq_true h1
   omega
  have ew:IntKind.i64.wrap ((x.p:Int)-1)=((x.p:Int)-1):=aG (by omega) (by omega)
  refine⟨⟨Int.natCast_nonneg _,hp⟩,fun h2=> ?_,fun h2=> ?_⟩
  ·have h3:f<x.p:=by
    have:(x.p:Int)>f:=of_decide_eq_true h2
    omega
   have e2:(IntKind.i64.wrap (x.bg.pos-1)).toNat=x.p-1:=by
    show(IntKind.i64.wrap ((x.p:Int)-1)).toNat=_
    rw[ew];omega
   rw[e2]
   have hi:Dy A.O f h x.p↔O0 h (A.O.get! x.p).toNat (Dx (A.O.get! x.p).toNat) (Dx (A.O.get! (x.p-1)).toNat):=by
    have:=GF (s:=A.O) (f:=f) (hex:=h) (p:=x.p)
    rw[if_pos h3]at this
    exact this.symm
   refine⟨⟨by show 0<=IntKind.i64.wrap ((x.p:Int)-1);rw[ew];omega,by omega⟩,Lh (fun hc=> .inl ⟨rfl,go hp (hi.2 hc)⟩) (fun hc=> .inr ⟨by simp,out (fun hh=>hc (hi.1 hh.2))⟩)⟩
  ·have h3:¬f<x.p:=by
    have:¬(x.p:Int)>f:=of_decide_eq_false h2
    omega
   have hi:Dy A.O f h x.p↔O0 h (A.O.get! x.p).toNat (Dx (A.O.get! x.p).toNat) 0:=by
    have:=GF (s:=A.O) (f:=f) (hex:=h) (p:=x.p)
    rw[if_neg h3]at this
    exact this.symm
   exact Lh (fun hc=> .inl ⟨rfl,go hp (hi.2 hc)⟩) (fun hc=> .inr ⟨by simp,out (fun hh=>hc (hi.1 hh.2))⟩)
 ·have:¬(x.p:Int)<A.O.size:=of_decide_eq_false h1
  have:=hh.1
  omega
def Tp(A:bG)(p:LI×List Value×List SV):af (Ex×E (LY A)):=match p.2.2 with
 |[.val (.int .i64 f),b]=>match gk b with
  |some h=> .aY (p.1=p.1.dL.bg∧Fit A.O p.1.dL∧0<=f) (.ae (.normal,Dw A p.2.1 f h (LS.bg {p.1.dL with p:=fk A.O f.toNat h A.O.size p.1.dL.p})))
  |none=> .fail
 |_=> .fail
theorem oq{b:SV}{h:Bool}(e:gk b=some h):iE b=some (.bool h):=by
 unfold gk at e
 split at e
 ·cases e;rfl
 ·cases e;rfl
 ·cases e;rfl
 ·cases e
theorem Tq(A:bG)(hA:A.Ok):cy (LY A) Tryz.f41.ntmps 0 (.loop Dv) (cx (eK [2,3]) (Tp A)):=by
 refine eW (F:=wC [2,3]) ⟨fun p bl a w Q hI hs=> ?_,fun p Q hb _=>hb.elim⟩ (kf [2,3])
 obtain⟨x,bx,vs⟩:=p
 unfold Tp at hs
 split at hs
 ·rename_i f b heq
  split at hs
  ·rename_i h hb
   obtain rfl:vs=_:=heq
   obtain⟨⟨h1,h2,h3⟩,hq⟩:=hs
   simp only at h1 h2
   have e1:((f.toNat:Nat):Int)=f:=Int.toNat_of_nonneg h3
   have gy:cL (LY A) Tryz.f41.ntmps (Dw A bx f.toNat h (LI.dL x).bg) bl a w:=by
    refine hI.lax ⟨by rw[←h1];rfl,fun i=> ?_⟩
    have hl:Ev.look (wC [2,3] (x,bx,[.val (.int .i64 f),b]):E (LY A)).tm i=if i=0 then .st 0 else if i=2 then .val (.int .i64 f)else if i=3 then b else .jk:=by
     show Ev.look [(0,_),(2,_),(3,_)] i=_
     rw[aF,aF,aF];rfl
    have hr:Ev.look (Dw A bx f.toNat h (LI.dL x).bg).tm i=if i=0 then .st 0 else if i=2 then .val (.int .i64 f)else if i=3 then .val (.bool h)else .jk:=by
     show Ev.look [(0,_),(2,SV.val (.int .i64 ((f.toNat:Nat):Int))),(3,_)] i=_
     rw[aF,aF,aF,e1];rfl
    rw[hl,hr]
    by_cases i0:i=0
    ·rw[if_pos i0,if_pos i0];exact .inr (.inl rfl)
    ·rw[if_neg i0,if_neg i0]
     by_cases i2:i=2
     ·rw[if_pos i2,if_pos i2];exact .inr (.inl rfl)
     ·rw[if_neg i2,if_neg i2]
      by_cases i3:i=3
      ·rw[if_pos i3,if_pos i3];exact .inr (.inr ⟨_,oq hb,rfl⟩)
      ·rw[if_neg i3];exact .inl rfl
   exact(X4 A hA bx f.toNat h).wp (LI.dL x,A.O.size) bl a w Q gy ⟨⟨h2,by show _<=LS.p _+_;omega⟩,by show Q (.normal,Dw A bx (f.toNat:Nat) h _);rw[e1];exact hq⟩
  ·exact hs.elim
 ·exact hs.elim
theorem Lk{s:U}{f:Nat}{hex:Bool}:∀(n p:Nat),p<=s.size->p<=fk s f hex n p∧fk s f hex n p<=s.size
 |0,p,h=>⟨Nat.le_refl _,h⟩
 |n+1,p,h=>by
  by_cases hc:p<s.size∧Dy s f hex p
  ·rw[GG hc.1 hc.2]
   have:=Lk (f:=f) (hex:=hex) n (p+1) hc.1
   omega
  ·rw[Lj hc];exact⟨Nat.le_refl _,h⟩
def nfT(A:bG)(bx:List Value)(x y:LI):af (SV×aq (LY A)):=
 let no:af (SV×aq (LY A)):= .ae (eC,⟨{y with pos:=x.pos,ai:=2},bx⟩)
 let yes:af (SV×aq (LY A)):= .aY (A.rows=true∧x.out.length<=8589934592∧((2:Int)=0∨(2:Int)=1∨(2:Int)=2∨(2:Int)=3∨(2:Int)=4)∧0<=x.pos∧x.pos<=y.pos∧y.pos<=(A.O.size:Int)∧0<=y.start∧y.start<=8589934592)
  (.ae (eC,⟨jg A.O y 2 (cE (A.O.extract x.pos.toNat y.pos.toNat)) x.pos.toNat,bx⟩))
 .aY (0<=y.pos∧y.pos<=(A.O.size:Int)) (.aY True (.aY (0<=x.pos∧x.pos<=y.pos∧y.pos<=(A.O.size:Int)) (.aY ((A.O.extract x.pos.toNat y.pos.toNat).size<=8589934592)
  (.aj (decide (cE (A.O.extract x.pos.toNat y.pos.toNat)<0)) no
    (.aj (decide (y.pos<(A.O.size:Int))) (.aj (decide (((Lib.decodeGo (A.O.extract y.pos.toNat A.O.size)).1:Int)>=128)) no yes) yes)))))
def nfB(A:bG)(bx:List Value)(X:LS)(h:Bool):af (SV×aq (LY A)):=
 .aY (cy (LY A) Tryz.f41.ntmps 0 (.loop Dv) (cx (eK [2,3]) (Tp A))) (.aY (X.bg=X.bg.dL.bg∧Fit A.O X.bg.dL∧0<=X.bg.pos) (nfT A bx X.bg (LS.bg {X with p:=fk A.O X.p h A.O.size X.p})))
theorem X5(A:bG)(X:LS)(bx:List Value):eh (xh A (f_ A) Tryz.f41.ntmps [(0,cx (eK [2,3]) (Tp A))] 0) Tryz.f41 [.st 0] ⟨X.bg,bx⟩=
 .aY (0<=X.bg.pos∧X.bg.pos<=(A.O.size:Int)) (.aY True (.aj (Lib.hasPrefix (A.O.extract X.p A.O.size).data.toList #[48,120].toList) (nfB A bx X true)
  (.aY (0<=X.bg.pos∧X.bg.pos<=(A.O.size:Int)) (.aY True (nfB A bx X (Lib.hasPrefix (A.O.extract X.p A.O.size).data.toList #[48,88].toList)))))):=by kernel_rfl
def Ll(A:bG):ej (LY A):=⟨41,#[],true,X0 A (fun _=>A.rows=true) (jT A.O)⟩
theorem Jz(A:bG)(hA:A.Ok):(Ll A).Ok:=by
 refine rH hA Tryz.func41 (fun args w=>by kernel_rfl) (iD A (fE A hA) Tryz.f41.ntmps [(0,cx (eK [2,3]) (Tp A))] 0) (fun args c Q h=> ?_)
 obtain⟨X,bx,rfl,rfl,hf,hr,hq⟩:=uT h
 have hs:=hA.n1
 obtain⟨l1,l2,l3,l4,l5,l6,l7⟩:=hf.len hs
 rw[X5]
 have body:∀hx:Bool,cD (A.O.extract X.p A.O.size)=hx->(nfB A bx X hx).aD Q:=fun hx e=>by
  obtain⟨g1,g2⟩:=Lk (s:=A.O) (f:=X.p) (hex:=hx) A.O.size X.p hf.le
  unfold jT at hq
  rw[e]at hq
  simp only at hq
  generalize he:fk A.O X.p hx A.O.size X.p=e0 at hq g1 g2
  have k1:(X.p:Int)<=(e0:Nat):=by omega
  have k2:((e0:Nat):Int)<=A.O.size:=by omega
  have k3:(0:Int)<=(e0:Nat):=Int.natCast_nonneg _
  have hxx:=hU hs X.p e0
  refine⟨Tq A hA,⟨rfl,hf,l4⟩,?_⟩
  rw[he]
  have no:(cE (A.O.extract X.p e0)<0∨(e0<A.O.size∧128<=(Utf8.decode A.O e0).1))->Q (eC,⟨{(LS.bg {X with p:=e0})with pos:=X.bg.pos,ai:=2},bx⟩):=fun hc=>by
   rw[if_pos hc]at hq
   exact hq
  have yes:¬(cE (A.O.extract X.p e0)<0∨(e0<A.O.size∧128<=(Utf8.decode A.O e0).1))->Q (eC,⟨jg A.O (LS.bg {X with p:=e0}) 2 (cE (A.O.extract X.p e0)) X.p,bx⟩):=fun hc=>by
   rw[if_neg hc]at hq
   rw[ke]
   exact hq
  refine⟨⟨k3,k2⟩,trivial,⟨l4,k1,k2⟩,Nat.le_trans hxx (by omega),fun q1=>no (.inl (of_decide_eq_true q1)),fun q1=>⟨fun q2=> ?_,fun q2=>⟨⟨hr,l1,by decide,l4,k1,k2,l2,l3⟩,yes (fun hc=>hc.elim (of_decide_eq_false q1) (fun hc=> ?_))⟩⟩⟩
  ·have q3:e0<A.O.size:=by
    have:((e0:Nat):Int)<A.O.size:=of_decide_eq_true q2
    omega
   have hd:Lib.decodeGo (A.O.extract (LS.bg {X with p:=e0}).pos.toNat A.O.size)=Utf8.decode A.O e0:=Lib.decodeGo_extract A.O e0 q3
   rw[hd]
   refine⟨fun q4=>no (.inr ⟨q3,?_⟩),fun q4=>⟨⟨hr,l1,by decide,l4,k1,k2,l2,l3⟩,yes (fun hc=>hc.elim (of_decide_eq_false q1) (fun hc=> ?_))⟩⟩
   ·have:((Utf8.decode A.O e0).1:Int)>=128:=of_decide_eq_true q4
    omega
   ·have:¬((Utf8.decode A.O e0).1:Int)>=128:=of_decide_eq_false q4
    omega
  ·have:¬((e0:Nat):Int)<A.O.size:=of_decide_eq_false q2
   omega
 refine⟨⟨l4,l5⟩,trivial,fun q1=>body true ?_,fun q1=>⟨⟨l4,l5⟩,trivial,body _ ?_⟩⟩
 ·have q1:Lib.hasPrefix (A.O.extract X.p A.O.size).data.toList [48,120]=true:=q1
  rw[cD,q1];rfl
 ·have q1:Lib.hasPrefix (A.O.extract X.p A.O.size).data.toList [48,120]=false:=q1
  rw[cD,q1];rfl
theorem Tr(s:U)(a b d:Nat):0<=dn s a b d∧(dn s a b d<=s.size):=by
 unfold dn
 split
 ·omega
 ·split
  ·omega
  ·split<;>omega
theorem X6{s:U}{q:Int}(hq:0<q):0<=dR s q∧dR s q<=s.size:=by
 unfold dR
 split
 ·rename_i h
  have:¬s.size<=1:=fun hs=>by
   rw[Gw hs]at h
   rcases h with h|h
   ·exact absurd h (by decide+kernel)
   ·have h:(0:Int)=q:=h
    omega
  omega
 ·repeat' split
  all_goals first
   |exact Tr _ _ _ _
   |omega
abbrev xk:Code:=a_ (aX (av Tryz.f42) 0)
def Hk(A:bG)(bx:List Value)(q f c:Int)(x:LI):E (LY A):=⟨⟨x,bx⟩,[(0,.st 0),(1,.val (.int .u8 q)),(4,.val (.int .i64 f)),(5,.val (.int .i64 c))]⟩
def Ts:Ex->List Nat
 | .normal=>[0,1,4,5]
 |_=>[]
def lG(A:bG)(bx:List Value)(x:LI):E (LY A):=⟨⟨x,bx⟩,[]⟩
def quT(A:bG)(bx:List Value)(q f c:Int)(x:LI):af (Ex×E (LY A)):=
 let st:Int:=if ca A.O x.pos.toNat=true then 1 else x.ai
 let P:Prop:=A.rows=true∧x.out.length<=8589934592∧((2:Int)=0∨(2:Int)=1∨(2:Int)=2∨(2:Int)=3∨(2:Int)=4)∧0<=f∧f<=IntKind.i64.wrap (x.pos+1)∧IntKind.i64.wrap (x.pos+1)<=(A.O.size:Int)∧0<=x.start∧x.start<=8589934592
 let es:Int:=dR (A.O.extract x.pos.toNat A.O.size) q
 .aj (x.ai==0)
  (.aY (0<=x.pos)
    (.aj (st != 0)
      (.ae (.normal,Hk A bx q f c {x with ai:=st}))
      (.aj ((aN A.O x.pos.toNat:Int)==0)
        (.ae (.normal,Hk A bx q f c {x with ai:=1}))
        (.aj (ba A.O x.pos.toNat==10)
          (.ae (.normal,Hk A bx q f c {x with ai:=1}))
          (.aj (ba A.O x.pos.toNat==IntKind.i32.wrap q)
            (.aj (q==34)
              (.aY P (.ae (.ret,lG A bx (jg A.O {x with pos:=IntKind.i64.wrap (x.pos+1),ai:=st} 2 4 f.toNat))))
              (.aj (c==1)
                (.aY P (.ae (.ret,lG A bx (jg A.O {x with pos:=IntKind.i64.wrap (x.pos+1),ai:=st} 2 3 f.toNat))))
                (.ae (.ret,lG A bx {x with pos:=IntKind.i64.wrap (x.pos+1),ai:=1}))))
            (.aj (ba A.O x.pos.toNat==92)
              (.aY (0<=x.pos∧x.pos<=(A.O.size:Int))
                (.aY ((A.O.extract x.pos.toNat A.O.size).size<=2147483647∧0<q)
                  (.aj (es==0)
                    (.ae (.normal,Hk A bx q f (IntKind.i64.wrap (c+1)) {x with pos:=IntKind.i64.wrap (x.pos+es),ai:=1}))
                    (.ae (.normal,Hk A bx q f (IntKind.i64.wrap (c+1)) {x with pos:=IntKind.i64.wrap (x.pos+es),ai:=st})))))
              (.ae (.normal,Hk A bx q f (IntKind.i64.wrap (c+1)) {x with pos:=IntKind.i64.wrap (x.pos+(aN A.O x.pos.toNat:Int)),ai:=st}))))))))
  (.ae (.exit 0,lG A bx x))
theorem X7(A:bG)(bx:List Value)(q f c:Int)(x:LI):(az (xh A (f_ A) Tryz.f42.ntmps [] 0) xk (Hk A bx q f c x)).bind (fun xe=> .ae (xe.1,cU (Ts xe.1) xe.2))=quT A bx q f c x:=by kernel_rfl
def nq(s:U)(q:Int):Nat->LS->Bool
 |0,x=>false
 |n+1,x=>if x.ai=0 then
  (if ca s x.p=true then false
   else if aN s x.p=0∨ba s x.p=10 then false
   else if ba s x.p=q then true
   else if ba s x.p=92 then
    (if dR (s.extract x.p s.size) q=0 then false else nq s q n {x with p:=x.p+(dR (s.extract x.p s.size) q).toNat})
   else nq s q n {x with p:=x.p+aN s x.p})
  else false
def Tt(A:bG)(bx:List Value)(q:Int)(f:Nat)(p:LS×Nat×Nat):Ex×E (LY A):=(if nq A.O q p.2.2 p.1=true then .ret else .normal,lG A bx (bE A.O q f p.2.2 p.2.1 p.1).bg)
theorem v_{s:U}{q:Int}{f n c:Nat}{x:LS}(h:x.ai≠0):bE s q f n c x=x∧nq s q n x=false:=by
 cases n with
 |zero=>exact⟨rfl,rfl⟩
 |succ n=>exact⟨by rw[bE,if_neg h],by rw[nq,if_neg h]⟩
structure QI(O:U)(f:Nat)(p:LS×Nat×Nat):Prop where
 fit:Fit O p.1
 n:p.1.ai=0->O.size+1<=p.1.p+p.2.2∧p.2.1<=p.1.p∧f<p.1.p
theorem X8(A:bG)(hA:A.Ok)(hr:A.rows=true)(bx:List Value)(q:Int)(hq:q=34∨q=39)(f:Nat):At (LY A) Tryz.f42.ntmps (.block 0 (.loop xk)) (fun p:LS×Nat×Nat=>Hk A bx q f p.2.1 p.1.bg)
 (fun p=> .aY (QI A.O f p) (.ae (Tt A bx q f p))):=by
 refine At.det rI (QI A.O f) (fun p=>p.2.2+if p.1.ai=0 then 1 else 0) (Tt A bx q f)
  (At.same (C:=xh A (f_ A) Tryz.f42.ntmps [] 0) (qI A hA) (iD A (fE A hA) _ [] 0) Ts (fun p=>X7 A bx q f p.2.1 p.1.bg)) ?_
 rintro⟨x,c,n⟩ ⟨hf,hn⟩
 have hs:=hA.n1
 simp only at hf hn
 have hx:=hf.le
 obtain⟨l1,l2,l3,l4,l5,l6,l7⟩:=hf.len hs
 refine⟨fun h1=> ?_,fun h1=> .inr ⟨by simp,?_⟩⟩
 ·have e0:x.ai=0:=by
   have h1:((x.ai:Int)==0)=true:=h1
   have:(x.ai:Int)=0:=by simpa using h1
   omega
  obtain⟨n1,n2,n3⟩:=hn e0
  obtain⟨m,rfl⟩:∃m,n=m+1:=⟨n-1,by omega⟩
  have bad:∀c':Nat,bE A.O q f (m+1) c x={x with ai:=1}->nq A.O q (m+1) x=false->∃p':LS×Nat×Nat,Hk A bx q f c' {x.bg with ai:=1}=Hk A bx q f p'.2.1 p'.1.bg∧
   (p'.2.2+if p'.1.ai=0 then 1 else 0)<(m+1+if x.ai=0 then 1 else 0)∧QI A.O f p'∧Tt A bx q f p'=Tt A bx q f (x,c,m+1):=fun c' g1 g2=>by
   refine⟨({x with ai:=1},c',m),rfl,by rw[if_pos e0];show(m+if(1:Nat)=0 then 1 else 0)<_;rw[if_neg (by decide)];omega,⟨hf.at (Nat.le_refl _) hx 1,fun h=>absurd h (by show¬(1:Nat)=0;omega)⟩,?_⟩
   obtain⟨k1,k2⟩:=v_ (s:=A.O) (q:=q) (f:=f) (n:=m) (c:=c') (x:={x with ai:=1}) (by show(1:Nat)≠0;omega)
   simp only[Tt,k1,k2,g1,g2]
  have on:∀d:Nat,1<=d->x.p+d<=A.O.size->bE A.O q f (m+1) c x=bE A.O q f m (c+1) {x with p:=x.p+d}->nq A.O q (m+1) x=nq A.O q m {x with p:=x.p+d}->
   ∃p':LS×Nat×Nat,Hk A bx q f (IntKind.i64.wrap ((c:Int)+1)) {x.bg with pos:=IntKind.i64.wrap ((x.p:Int)+d)}=Hk A bx q f p'.2.1 p'.1.bg∧
   (p'.2.2+if p'.1.ai=0 then 1 else 0)<(m+1+if x.ai=0 then 1 else 0)∧QI A.O f p'∧Tt A bx q f p'=Tt A bx q f (x,c,m+1):=fun d d1 d2 g1 g2=>by
   have w1:IntKind.i64.wrap ((c:Int)+1)=((c+1:Nat):Int):=aG (by omega) (by omega)
   have w2:IntKind.i64.wrap ((x.p:Int)+d)=((x.p+d:Nat):Int):=aG (by omega) (by omega)
   refine⟨({x with p:=x.p+d},c+1,m),by rw[w1,w2];rfl,by show(m+if x.ai=0 then 1 else 0)<_;omega,⟨hf.at (Nat.le_add_right _ _) d2 x.ai,fun _=>⟨by show _<=x.p+d+m;omega,by show c+1<=x.p+d;omega,by show f<x.p+d;omega⟩⟩,?_⟩
   simp only[Tt,g1,g2]
  refine⟨l4,fun h2=> .inl ⟨rfl,?_⟩,fun h2=> ?_⟩
  ·have hb:ca A.O x.p=true:=by
    cases hb:ca A.O x.p with
    |true=>rfl
    |false=>
     have h2:((if ca A.O x.p=true then 1 else(x.ai:Int)) != 0)=true:=h2
     rw[hb,e0]at h2
     exact absurd h2 (by decide)
   have:=bad c (by rw[bE,if_pos e0,if_pos hb]) (by rw[nq,if_pos e0,if_pos hb])
   obtain⟨p',g1,g2⟩:=this
   refine⟨p',?_,g2⟩
   rw[←g1]
   show Hk A bx q f c {x.bg with ai:=if ca A.O x.p=true then 1 else(x.ai:Int)}=_
   rw[if_pos hb]
  ·have hb:ca A.O x.p=false:=by
    cases hb:ca A.O x.p with
    |false=>rfl
    |true=>
     have h2:((if ca A.O x.p=true then 1 else(x.ai:Int)) != 0)=false:=h2
     rw[if_pos hb]at h2
     exact absurd h2 (by decide)
   have wm:¬ca A.O x.p=true:=by rw[hb];decide
   have est:(if ca A.O x.bg.pos.toNat=true then 1 else x.bg.ai)=x.bg.ai:=if_neg wm
   simp only[est]
   refine⟨fun h3=> .inl ⟨rfl,?_⟩,fun h3=>⟨fun h4=> .inl ⟨rfl,?_⟩,fun h4=> ?_⟩⟩
   ·have hw:aN A.O x.p=0:=nn h3
    exact bad c (by rw[bE,if_pos e0,if_neg wm,if_pos (.inl hw)]) (by rw[nq,if_pos e0,if_neg wm,if_pos (.inl hw)])
   ·have hw:ba A.O x.p=10:=by
     have h4:(ba A.O x.p==10)=true:=h4
     simpa using h4
    exact bad c (by rw[bE,if_pos e0,if_neg wm,if_pos (.inr hw)]) (by rw[nq,if_pos e0,if_neg wm,if_pos (.inr hw)])
   ·have X9:¬aN A.O x.p=0:=js h3
    have Cs:¬ba A.O x.p=10:=by
     have h4:(ba A.O x.p==10)=false:=h4
     simpa using h4
    have oL:¬(aN A.O x.p=0∨ba A.O x.p=10):=fun h=>h.elim X9 Cs
    have hp:x.p<A.O.size:=by
     by_cases h:x.p<A.O.size
     ·exact h
     ·exact absurd (by simp[aN,h]) X9
    have wq:IntKind.i32.wrap q=q:=by rcases hq with rfl|rfl<;>decide
    have w1:IntKind.i64.wrap ((x.p:Int)+1)=((x.p+1:Nat):Int):=aG (by omega) (by omega)
    have hP:A.rows=true∧x.bg.out.length<=8589934592∧((2:Int)=0∨(2:Int)=1∨True∨(2:Int)=3∨(2:Int)=4)∧0<=(f:Int)∧(f:Int)<=IntKind.i64.wrap (x.bg.pos+1)∧IntKind.i64.wrap (x.bg.pos+1)<=(A.O.size:Int)∧0<=x.bg.start∧x.bg.start<=8589934592:=by
     have w1':IntKind.i64.wrap (x.bg.pos+1)=((x.p+1:Nat):Int):=w1
     rw[w1']
     exact⟨hr,l1,.inr (.inr (.inl trivial)),by omega,by omega,by omega,l2,l3⟩
    have ept:∀k:Int,jg A.O {x.bg with pos:=IntKind.i64.wrap (x.bg.pos+1),ai:=x.bg.ai} 2 k ((f:Nat):Int).toNat=(dk A.O {x with p:=x.p+1} 2 k f).bg:=fun k=>by
     have w1':IntKind.i64.wrap (x.bg.pos+1)=((x.p+1:Nat):Int):=w1
     rw[w1']
     exact ke A.O {x with p:=x.p+1} 2 k f
    refine⟨fun h5=> ?_,fun h5=> ?_⟩
    ·have X_:ba A.O x.p=q:=by
      have h5:(ba A.O x.p==IntKind.i32.wrap q)=true:=h5
      rw[wq]at h5
      simpa using h5
     have er:nq A.O q (m+1) x=true:=by rw[nq,if_pos e0,if_neg wm,if_neg oL,if_pos X_]
     have el:bE A.O q f (m+1) c x=(if q=34 then dk A.O {x with p:=x.p+1} 2 4 f else if c=1 then dk A.O {x with p:=x.p+1} 2 3 f else{x with p:=x.p+1,ai:=1}):=by
      rw[bE,if_pos e0,if_neg wm,if_neg oL,if_pos X_]
     have eo:Tt A bx q f (x,c,m+1)=(.ret,lG A bx (bE A.O q f (m+1) c x).bg):=by simp only[Tt,er,if_true]
     refine⟨fun h6=>⟨hP,.inr ⟨by simp,?_⟩⟩,fun h6=>⟨fun h7=>⟨hP,.inr ⟨by simp,?_⟩⟩,fun h7=> .inr ⟨by simp,?_⟩⟩⟩
     ·have q6:q=34:=by simpa using h6
      rw[eo,el,if_pos q6,ept];rfl
     ·have q6:¬q=34:=by simpa using h6
      have c7:c=1:=nn h7
      rw[eo,el,if_neg q6,if_pos c7,ept];rfl
     ·have q6:¬q=34:=by simpa using h6
      have c7:¬c=1:=js h7
      rw[eo,el,if_neg q6,if_neg c7]
      show(Ex.ret,lG A bx {x.bg with pos:=IntKind.i64.wrap ((x.p:Int)+1),ai:=1})=_
      rw[w1];rfl
    ·have X_:¬ba A.O x.p=q:=by
      have h5:(ba A.O x.p==IntKind.i32.wrap q)=false:=h5
      rw[wq]at h5
      simpa using h5
     refine⟨fun h6=>⟨⟨l4,l5⟩,⟨hU hs _ _,by omega⟩,fun h7=> .inl ⟨rfl,?_⟩,fun h7=> .inl ⟨rfl,?_⟩⟩,fun h6=> .inl ⟨rfl,?_⟩⟩
     ·have ZS:ba A.O x.p=92:=by
       have h6:(ba A.O x.p==92)=true:=h6
       simpa using h6
      have h7':dR (A.O.extract x.p A.O.size) q=0:=by
       have h7:(dR (A.O.extract x.p A.O.size) q==0)=true:=h7
       simpa using h7
      have w2:IntKind.i64.wrap ((x.p:Int)+dR (A.O.extract x.p A.O.size) q)=(x.p:Int):=by
       rw[h7',Int.add_zero];exact aG (by omega) (by omega)
      have w3:IntKind.i64.wrap ((c:Int)+1)=((c+1:Nat):Int):=aG (by omega) (by omega)
      show∃p':LS×Nat×Nat,Hk A bx q f (IntKind.i64.wrap ((c:Int)+1)) {x.bg with pos:=IntKind.i64.wrap ((x.p:Int)+dR (A.O.extract x.p A.O.size) q),ai:=1}=_∧_
      rw[w2,w3]
      exact bad (c+1) (by rw[bE,if_pos e0,if_neg wm,if_neg oL,if_neg X_,if_pos ZS,if_pos h7']) (by rw[nq,if_pos e0,if_neg wm,if_neg oL,if_neg X_,if_pos ZS,if_pos h7'])
     ·have ZS:ba A.O x.p=92:=by
       have h6:(ba A.O x.p==92)=true:=h6
       simpa using h6
      have h7':¬dR (A.O.extract x.p A.O.size) q=0:=by
       have h7:(dR (A.O.extract x.p A.O.size) q==0)=false:=h7
       simpa using h7
      obtain⟨k1,k2⟩:=X6 (s:=A.O.extract x.p A.O.size) (q:=q) (by omega)
      rw[aA _ _ _ (Nat.le_refl _)]at k2
      have k3:((dR (A.O.extract x.p A.O.size) q).toNat:Int)=dR (A.O.extract x.p A.O.size) q:=Int.toNat_of_nonneg k1
      have:=on (dR (A.O.extract x.p A.O.size) q).toNat (by omega) (by omega) (by rw[bE,if_pos e0,if_neg wm,if_neg oL,if_neg X_,if_pos ZS,if_neg h7']) (by rw[nq,if_pos e0,if_neg wm,if_neg oL,if_neg X_,if_pos ZS,if_neg h7'])
      rw[k3]at this
      exact this
     ·have ZS:¬ba A.O x.p=92:=by
       have h6:(ba A.O x.p==92)=false:=h6
       simpa using h6
      obtain⟨w1',w2',w3'⟩:=lF hp
      exact on (aN A.O x.p) w1' w3' (by rw[bE,if_pos e0,if_neg wm,if_neg oL,if_neg X_,if_neg ZS]) (by rw[nq,if_pos e0,if_neg wm,if_neg oL,if_neg X_,if_neg ZS])
 ·have e0:x.ai≠0:=fun h=>by
   have h1:((x.ai:Int)==0)=false:=h1
   rw[h]at h1
   exact absurd h1 (by decide)
  obtain⟨k1,k2⟩:=v_ (s:=A.O) (q:=q) (f:=f) (n:=n) (c:=c) (x:=x) e0
  simp only[Tt,k1,k2]
  rfl
def Tu(A:bG)(p:LI×List Value×List SV):af (Ex×E (LY A)):=match p.2.2 with
 |[.val (.int .u8 q),.val (.int .i64 f),.val (.int .i64 c)]=> .aY (p.1=p.1.dL.bg∧A.rows=true∧(q=34∨q=39)∧0<=f∧0<=c∧QI A.O f.toNat (p.1.dL,c.toNat,A.O.size)) (.aj (nq A.O q A.O.size p.1.dL) (.ae (.ret,lG A p.2.1 (bE A.O q f.toNat A.O.size c.toNat p.1.dL).bg)) (.ae (.normal,lG A p.2.1 (bE A.O q f.toNat A.O.size c.toNat p.1.dL).bg)))
 |_=> .fail
theorem Tv(A:bG)(hA:A.Ok):cy (LY A) Tryz.f42.ntmps 0 (.loop xk) (cx (eK [1,4,5]) (Tu A)):=by
 refine eW (F:=wC [1,4,5]) ⟨fun p bl a w Q hI hs=> ?_,fun p Q hb _=>hb.elim⟩ (kf [1,4,5])
 obtain⟨x,bx,vs⟩:=p
 unfold Tu at hs
 split at hs
 ·rename_i q f c heq
  obtain rfl:vs=_:=heq
  obtain⟨⟨h1,hr,h2,h3,h4,h5⟩,hq⟩:=hs
  simp only at h1
  have e1:((f.toNat:Nat):Int)=f:=Int.toNat_of_nonneg h3
  have e2:((c.toNat:Nat):Int)=c:=Int.toNat_of_nonneg h4
  have gy:cL (LY A) Tryz.f42.ntmps (Hk A bx q f.toNat c.toNat (LI.dL x).bg) bl a w:=by
   have e:(wC [1,4,5] (x,bx,[.val (.int .u8 q),.val (.int .i64 f),.val (.int .i64 c)]):E (LY A))=Hk A bx q f.toNat c.toNat (LI.dL x).bg:=by
    rw[←h1,e1,e2];rfl
   rw[←e];exact hI
  exact(X8 A hA hr bx q h2 f.toNat).wp (LI.dL x,c.toNat,A.O.size) bl a w Q gy ⟨h5,by
   show Q (if nq A.O q A.O.size (LI.dL x)=true then Ex.ret else .normal,_)
   by_cases hb:nq A.O q A.O.size (LI.dL x)=true
   ·rw[if_pos hb];exact hq.1 hb
   ·rw[if_neg hb];exact hq.2 (by simpa using hb)⟩
 ·exact hs.elim
def air(A:bG)(bx:List Value)(q:Int)(f:Nat)(y:LI):af (SV×aq (LY A)):=
 .aY (cy (LY A) Tryz.f42.ntmps 0 (.loop xk) (cx (eK [1,4,5]) (Tu A)))
  (.aY (y=y.dL.bg∧A.rows=true∧(q=34∨q=39)∧0<=(f:Int)∧0<=(0:Int)∧QI A.O ((f:Nat):Int).toNat (y.dL,(0:Int).toNat,A.O.size))
    (.aj (nq A.O q A.O.size y.dL) (.ae (eC,⟨(bE A.O q ((f:Nat):Int).toNat A.O.size (0:Int).toNat y.dL).bg,bx⟩)) (.ae (eC,⟨(bE A.O q ((f:Nat):Int).toNat A.O.size (0:Int).toNat y.dL).bg,bx⟩))))
theorem Ya(A:bG)(X:LS)(bx:List Value)(q:Int):eh (xh A (f_ A) Tryz.f42.ntmps [(0,cx (eK [1,4,5]) (Tu A))] 0) Tryz.f42 [.st 0,.val (.int .u8 q)] ⟨X.bg,bx⟩=
 air A bx q X.p {X.bg with pos:=IntKind.i64.wrap ((X.p:Int)+1)}:=by kernel_rfl
def Lm(A:bG)(args:List SV)(c:aq (LY A)):af (SV×aq (LY A)):=
 match args with
 |[.st 0,.val (.int .u8 q)]=> .aY (c.st=c.st.dL.bg∧Fit A.O c.st.dL∧A.rows=true∧(q=34∨q=39)∧c.st.dL.p<A.O.size∧c.st.dL.ai=0)
  (.ae (eC,⟨(bE A.O q c.st.dL.p A.O.size 0 {c.st.dL with p:=c.st.dL.p+1}).bg,c.bx⟩))
 |_=> .fail
def Lo(A:bG):ej (LY A):=⟨42,#[],true,Lm A⟩
theorem JA(A:bG)(hA:A.Ok):(Lo A).Ok:=by
 refine rH hA Tryz.func42 (fun args w=>by kernel_rfl) (iD A (fE A hA) Tryz.f42.ntmps [(0,cx (eK [1,4,5]) (Tu A))] 0) (fun args c Q h=> ?_)
 unfold Lm at h
 split at h
 ·rename_i q
  obtain⟨x,bx⟩:=c
  obtain⟨⟨h1,h2,hr,h3,h4,h5⟩,hq⟩:=h
  simp only at h1 h2 h4 h5 hq
  generalize LI.dL x=X at h1 h2 h4 h5 hq
  subst h1
  have hs:=hA.n1
  have w1:IntKind.i64.wrap ((X.p:Int)+1)=((X.p+1:Nat):Int):=aG (by omega) (by omega)
  rw[Ya,w1]
  refine⟨Tv A hA,⟨rfl,hr,h3,by omega,by omega,⟨h2.at (Nat.le_succ _) h4 X.ai,fun _=>⟨?_,Nat.zero_le _,?_⟩⟩⟩,fun _=>hq,fun _=>hq⟩
  ·show _<=X.p+1+A.O.size;omega
  ·show X.p<X.p+1;omega
 ·exact h.elim
theorem Yb{w:World}{base n sz g cap j:Nat}{e:TypeId}{xs:List Value}{u:Value}(h:w.ownsRow base e sz (.slice (some ⟨g,0,none⟩) n cap) n xs)(hj:j<n*sz):(w.setCell ⟨g,j,none⟩ u).ownsRow base e sz (.slice (some ⟨g,0,none⟩) n cap) n (xs.set j u):=by
 refine⟨by rw[List.length_set];exact h.1,.inr ?_⟩
 rcases h.2 with⟨h1,_⟩|⟨g',NK,cur,h1,h2,h3,h4,h5,h6,h7⟩
 ·cases h1
 ·injection h1 with h1 _ Kb
  injection h1 with h1
  injection h1 with h1
  subst h1 Kb
  exact⟨g,cap,cur.setIfInBounds j u,rfl,h2,aZ u h3,h4,h5,by simp[h6],by rw[Array.toList_setIfInBounds,List.take_set,h7]⟩
theorem uU{w:World}{base n sz g cap j:Nat}{e:TypeId}{xs:List Value}(h:w.ownsRow base e sz (.slice (some ⟨g,0,none⟩) n cap) n xs)(hj:j<n*sz):(∃u,xs[j]? =some u∧w.cell? ⟨g,j,none⟩=some u)∧w.frozen? ⟨g,j,none⟩=false:=by
 have hl:j<xs.length:=by rw[h.1];exact hj
 rcases h.2 with⟨h1,_⟩|⟨g',NK,cur,h1,h2,h3,h4,h5,h6,h7⟩
 ·cases h1
 ·injection h1 with h1 _ Kb
  injection h1 with h1
  injection h1 with h1
  subst h1 Kb
  refine⟨⟨xs[j],List.getElem?_eq_getElem hl,ag h3 ?_⟩,aV h3⟩
  have:(cur.toList.take (n*sz))[j]? =some xs[j]:=by rw[h7];exact List.getElem?_eq_getElem hl
  rw[List.getElem?_take_of_lt hj]at this
  simpa using this
theorem BT{A:bG}{x x':LI}{w:World}{n g cap j:Nat}{vr u:Value}(h:bj A x w)(hr:A.rows=true)(hb:w.heap[A.S]? =some (.cells (de A.O x (.slice (some ⟨g,0,none⟩) n cap) vr) 58 (0,0)))
 (o1:w.ownsRow A.base 29 5 (.slice (some ⟨g,0,none⟩) n cap) n (flat cw x.out))(hn:x.out.length=n)(o2:w.ownsRow A.base 53 3 vr x.rem.length (flat di x.rem))(hj:j<n*5)
 (hx:∀vo vr,de A.O x' vo vr=de A.O x vo vr)(hl:x'.out.length=n)(hf:flat cw x'.out=(flat cw x.out).set j u)(hm:x'.rem=x.rem):
 bj A x' (w.setCell ⟨g,j,none⟩ u)∧eR A w (w.setCell ⟨g,j,none⟩ u)∧(w.setCell ⟨g,j,none⟩ u).heap[A.S]? =some (.cells (de A.O x' (.slice (some ⟨g,0,none⟩) n cap) vr) 58 (0,0))∧
  (w.setCell ⟨g,j,none⟩ u).ownsRow A.base 29 5 (.slice (some ⟨g,0,none⟩) n cap) n (flat cw x'.out)∧(w.setCell ⟨g,j,none⟩ u).ownsRow A.base 53 3 vr x'.rem.length (flat di x'.rem):=by
 have hS:=h.ok.hi hr
 obtain⟨g1,g2,g3⟩:=dt o1 (k:=g) rfl
 have dH:A.S≠g:=by omega
 have Gz:(w.setCell ⟨g,j,none⟩ u).heap[A.S]? =some (.cells (de A.O x' (.slice (some ⟨g,0,none⟩) n cap) vr) 58 (0,0)):=by
  rw[Below.heap_setCell _ _ _ _ dH,hx];exact hb
 have r1:(w.setCell ⟨g,j,none⟩ u).ownsRow A.base 29 5 (.slice (some ⟨g,0,none⟩) n cap) n (flat cw x'.out):=by rw[hf];exact Yb o1 hj
 have r2:(w.setCell ⟨g,j,none⟩ u).ownsRow A.base 53 3 vr x'.rem.length (flat di x'.rem):=by
  rw[hm]
  refine ng o2 (fun k hk=>Below.heap_setCell _ _ _ _ (fun e=> ?_))
  have e:k=g:=e
  have:=(dt o2 hk).2.1
  rw[e,g2]at this
  exact absurd this (by decide)
 have OV:=h.ok.lo
 refine⟨⟨h.ok,h.below.setCell (p:=⟨g,j,none⟩) (by show _<=g;omega) u,⟨_,vr,Gz,fun _=>⟨by rw[hl];exact r1,r2⟩⟩,fun hh=>by simpa using h.size hh⟩,?_,Gz,r1,r2⟩
 refine⟨rfl,rfl,rfl,by simp,fun k hk=>eU _ _ _ _,fun k hk ht _=>Below.heap_setCell _ _ _ _ (fun e=>ht (.inr (.inr ⟨hr,?_,?_⟩)))⟩
 ·have e:k=g:=e
  rw[e];exact g1
 ·have e:k=g:=e
  rw[e,g2];exact .inl rfl
theorem GH{l:List eP}{t t':eP}{i:Nat}{u:Value}(h:(cw t).set i u=cw t'):flat cw (l++[t'])=(flat cw (l++[t])).set (l.length*5+i) u:=by
 rw[iJ,iJ]
 have e:(flat cw l).length=l.length*5:=Bx l
 rw[List.set_append_right _ _ (by rw[e];exact Nat.le_add_right _ _),e,Nat.add_sub_cancel_left]
 simp only[flat,List.append_nil]
 rw[h]
theorem df(N:Nat)(a:Act)(hd:a.defers=[])(hs:a.tmps.size=N):∃y:Nat->Value,(∀i,y i=a.tmps.getD i undef)∧a={tmps:=((List.range N).map y).toArray,defers:=[]}:=by
 refine⟨fun i=>a.tmps.getD i undef,fun _=>rfl,?_⟩
 obtain⟨t,d⟩:=a
 simp only at hd hs
 subst hd
 exact congrArg (fun t=>({tmps:=t,defers:=[]}:Act)) (gx N t hs)
def BU:Code->Code
 | .seq _ b=>BU b
 |c=>c
def wa:Code->Code
 | .cond _ t _=>t
 |c=>c
abbrev Tw:Code:=aX (av Tryz.f43) 1
abbrev Tx:Code:=wa (BU Tw)
theorem Oj{A:bG}{x:LI}{w:World}(hi:bj A x w)(hr:A.rows=true){l0:List eP}{t:eP}(hx:x.out=l0++[t]):
 ∃g cap vr,w.heap[A.S]? =some (.cells (de A.O x (.slice (some ⟨g,0,none⟩) (l0.length+1) cap) vr) 58 (0,0))∧w.ownsRow A.base 29 5 (.slice (some ⟨g,0,none⟩) (l0.length+1) cap) (l0.length+1) (flat cw x.out)∧
  w.ownsRow A.base 53 3 vr x.rem.length (flat di x.rem)∧(∃u,w.cell? ⟨g,l0.length*5+3,none⟩=some u)∧(∃u,w.cell? ⟨g,l0.length*5+4,none⟩=some u)∧w.frozen? ⟨g,l0.length*5+3,none⟩=false∧w.frozen? ⟨g,l0.length*5+4,none⟩=false:=by
 obtain⟨vo,vr,hb,eO⟩:=hi.jI
 obtain⟨o1,o2⟩:=eO hr
 have hl:x.out.length=l0.length+1:=by rw[hx];simp
 rw[hl]at o1
 rcases o1.2 with⟨_,h0⟩|⟨g,cap,cur,rfl,_⟩
 ·omega
 ·obtain⟨⟨u,_,hu⟩,hf⟩:=uU o1 (j:=l0.length*5+3) (by omega)
  obtain⟨⟨u2,_,hu2⟩,EE⟩:=uU o1 (j:=l0.length*5+4) (by omega)
  exact⟨g,cap,vr,hb,o1,o2,⟨u,hu⟩,⟨u2,hu2⟩,hf,EE⟩
theorem Ty{A:bG}{x:LI}{w:World}(h:bj A x w)(hr:A.rows=true)(hn:x.out.length<=8589934591){f p l s:Nat}(hp:x.pos=p)(h1:f<=p)(h2:p<=A.O.size)(h3:0<=x.start)(h4:x.start<=8589934592)(h5:l<=8589934592)(h6:s<=8589934592)
 {a:Act}(hd:a.defers=[])(hs:a.tmps.size=86)(e0:a.tmps.getD 0 undef= .pointer (some ⟨A.S,0,none⟩))(e2:a.tmps.getD 2 undef= .int .i64 f)(e3:a.tmps.getD 3 undef= .int .i64 l)(e4:a.tmps.getD 4 undef= .int .i64 s){Q:Exit->Act->World->Prop}
 (hQ:∀a' w',a'.defers=[]->a'.tmps.size=86->bj A {jg A.O x 2 4 f with out:=x.out++[⟨2,A.O.extract f p,4,l,(f:Int)-s+1⟩]} w'->eR A w w'->Q .ret a' w'):Tx.wp Tryz.prog Q a w:=by
 have eJ:=h.ok.n1
 obtain⟨y,hy,ha⟩:=df 86 a hd hs
 rw[ha]
 rw[←hy]at e0 e2 e3 e4
 clear ha hy
 simp only[Tx,Tw,wa,BU,av,Tryz.f43,Option.getD,aX,Nat.beq,cond,List.range,List.range.loop,List.map]
 rw[e0,e2,e3,e4]
 clear hd hs
 have H:=Lib.hid h
 have k1:IntKind.i64.wrap (((x.out.length+1:Nat):Int)-1)=(x.out.length:Int):=by rw[aG (by omega) (by omega)];omega
 have k2:IntKind.i64.wrap ((f:Int)-s)=(f:Int)-s:=aG (by omega) (by omega)
 have k3:IntKind.i64.wrap ((f:Int)-s+1)=(f:Int)-s+1:=aG (by omega) (by omega)
 clear h
 go_wp2_with ((go_at_call 27;refine(pC H.out hr (Nat.le_succ_of_le hn) 2 4 f p (.inr (.inr (.inl rfl))) hp h1 h2 h3 h4).mono ?_;rintro en w' ⟨rfl,hi,qn⟩;obtain⟨g,cap,vr,hb,o1,o2,⟨u3,c3⟩,⟨u4,c4⟩,f3,f4⟩:=Oj hi hr (l0:=x.out) rfl;have c8:w'.cell? ⟨A.S,8,none⟩=some (.slice (some ⟨g,0,none⟩) (x.out.length+1) cap):=ag hb rfl;have HI:=Lib.hid hi;have HB:=Lib.hid hb;clear hi hb))
 rename_i hk
 have bz:(x.out.length:Int)<(x.out.length:Int)+1:=by omega
 have Qz:(0:Int)<=(x.out.length:Int):=Int.natCast_nonneg _
 have hS:A.S≠g:=by have:=H.out.ok.hi hr;have:=(dt o1 (k:=g) rfl).1;omega
 have cs8:∀j u,(w'.setCell ⟨g,j,none⟩ u).cell? ⟨A.S,8,none⟩=some (.slice (some ⟨g,0,none⟩) (x.out.length+1) cap):=fun j u=>by
  rw[World.cell?_of_block (w:=w') (a:=⟨A.S,8,none⟩) (Below.heap_setCell _ _ _ _ hS)];exact c8
 have fin:bj A {jg A.O x 2 4 f with out:=x.out++[⟨2,A.O.extract f p,4,l,(f:Int)-s+1⟩]} ((w'.setCell ⟨g,x.out.length*5+3,none⟩ (.int .i64 l)).setCell ⟨g,x.out.length*5+4,none⟩ (.int .i64 ((f:Int)-s+1)))∧
  eR A w ((w'.setCell ⟨g,x.out.length*5+3,none⟩ (.int .i64 l)).setCell ⟨g,x.out.length*5+4,none⟩ (.int .i64 ((f:Int)-s+1))):=by
  obtain⟨a1,a2,a3,a4,a5⟩:=BT (x':={jg A.O x 2 4 f with out:=x.out++[⟨2,A.O.extract f x.pos.toNat,4,l,(f:Int)-x.start+1⟩]}) (j:=x.out.length*5+3) (u:= .int .i64 l) HI.out hr HB.out o1 (by simp[jg]) o2 (by omega) (fun _ _=>rfl) (by simp) (GH (i:=3) rfl) rfl
  obtain⟨b1,b2,_⟩:=BT (x':={jg A.O x 2 4 f with out:=x.out++[⟨2,A.O.extract f p,4,l,(f:Int)-s+1⟩]}) (j:=x.out.length*5+4) (u:= .int .i64 ((f:Int)-s+1)) a1 hr a3 a4 (by simp) a5 (by omega) (fun _ _=>rfl) (by simp) (by rw[hp];exact GH (i:=4) rfl) rfl
  exact⟨b1,eR.trans (eR.trans qn a2) b2⟩
 refine wp_region_noPanic ?_
 go_region_law (fail)
 all_goals
  refine NoPanic.normal ?_
  refine hk _ _ ?_
  go_wp2_with fail
  exact hQ _ _ rfl rfl (fin.1.kept dm) (eR.trans fin.2 (hH _))
theorem GI{A:bG}{bl:List Nat}{c:aq (LY A)}{w w':World}{aO:LI}(hc:fu (LY A) bl c w)(hi:bj A aO w')(hf:eR A w w'):fu (LY A) bl ⟨aO,c.bx⟩ w'∧Ext (LY A) bl bl w w':=by
 have zT:∀b∈bl,w'.heap[b]? =w.heap[b]? :=fun b hb=>hf.bm b (hc.free b hb).2 (hc.free b hb).1 (by simp)
 refine⟨⟨hi,hc.len,hc.nd,fun i b u h1 h2=> ?_,fun b hb=> ?_⟩,⟨⟨hf.os,hf.tape,hf.output,hf.size,hf.ty,fun k h1 h2 h3=>hf.bm k h1 h2 (by simp)⟩,List.prefix_refl _,fun b hb=> .inl hb⟩⟩
 ·have hm:=List.mem_of_getElem? h1
  rw[World.cell?_of_block (w:=w) (w':=w') (a:=⟨b,0,none⟩) (zT b hm),World.frozen?_of_block (w:=w) (w':=w') (a:=⟨b,0,none⟩) (zT b hm)]
  exact hc.cell i b u h1 h2
 ·have:=hc.free b hb
  rw[hf.ty b this.2]
  exact⟨this.1,Nat.lt_of_lt_of_le this.2 hf.size⟩
theorem xl{A:bG}{N:Nat}{e:E (LY A)}{bl:List Nat}{a a':Act}{w w':World}{aO:LI}{ex:Ex}{Q:Ex×E (LY A)->Prop}(hI:cL (LY A) N e bl a w)(hd:a'.defers=[])(hs:a'.tmps.size=N)(hi:bj A aO w')(hf:eR A w w')
 (hq:Q (ex,⟨⟨aO,e.c.bx⟩,[]⟩)):oG (LY A) N Q bl w ex.oN a' w':=by
 obtain⟨h1,h2⟩:=GI hI.core hi hf
 exact .inl ⟨ex,_,bl,hq,rfl,⟨h1,hd,hs,fun i=>trivial⟩,h2⟩
theorem zx{A:bG}{N:Nat}{c:Code}{π:Type}{F:π->E (LY A)}{g:π->af (Ex×E (LY A))}(hA:At (LY A) N c F g){κ:E (LY A)->Option π}(hκ:∀e p,κ e=some p->fF e (F p)):ki (LY A) N c (cx κ g):=by
 refine⟨fun e bl a w Q hI hs=> ?_,fun e Q hb _=>hb.elim⟩
 unfold cx at hs
 split at hs
 ·rename_i p hp
  exact hA.wp p bl a w Q (hI.lax (hκ e p hp)) hs
 ·exact hs.elim
def Tz(O:U)(x:LI)(f l s:Nat):LI:={jg O x 2 4 f with out:=x.out++[⟨2,O.extract f x.pos.toNat,4,l,(f:Int)-s+1⟩]}
def rwC(A:bG)(p:LI×List Value×List SV):af (Ex×E (LY A)):=match p.2.2 with
 |[b,.val (.int .i64 f),.val (.int .i64 l),.val (.int .i64 s)]=>match gk b with
  |some b=> .aj b (.aY (A.rows=true∧p.1.out.length<=8589934591∧0<=f∧f<=p.1.pos∧p.1.pos<=A.O.size∧0<=p.1.start∧p.1.start<=8589934592∧0<=l∧l<=8589934592∧0<=s∧s<=8589934592) (.ae (.ret,lG A p.2.1 (Tz A.O p.1 f.toNat l.toNat s.toNat))))
   (.ae (.normal,wC [2,3,4] (p.1,p.2.1,[.val (.int .i64 f),.val (.int .i64 l),.val (.int .i64 s)])))
  |none=> .fail
 |_=> .fail
theorem Yc:∃e,BU Tw= .cond (.tmp 57) Tx e∧e= .skip:=⟨_,by kernel_rfl,rfl⟩
theorem TA(A:bG)(hA:A.Ok):ki (LY A) Tryz.f43.ntmps (BU Tw) (cx (eK [57,2,3,4]) (rwC A)):=by
 refine zx (F:=wC [57,2,3,4]) ⟨fun p bl a w Q hI hs=> ?_,fun p Q hb _=>hb.elim⟩ (kf [57,2,3,4])
 obtain⟨x,bx,vs⟩:=p
 obtain⟨e',he,rfl⟩:=Yc
 rw[he]
 unfold rwC at hs
 split at hs
 ·rename_i b f l s heq
  obtain rfl:vs=_:=heq
  split at hs
  ·rename_i b' hb
   have look:∀i,Ev.look (wC [57,2,3,4] (x,bx,[b,.val (.int .i64 f),.val (.int .i64 l),.val (.int .i64 s)]):E (LY A)).tm i=
    if i=0 then .st 0 else if i=57 then b else if i=2 then .val (.int .i64 f)else if i=3 then .val (.int .i64 l)else if i=4 then .val (.int .i64 s)else .jk:=fun i=>by
    show Ev.look [(0,_),(57,_),(2,_),(3,_),(4,_)] i=_
    rw[aF,aF,aF,aF,aF];rfl
   have hv:a.tmps.getD 57 undef= .bool b':=by
    have:=hI.rel 57
    rw[look]at this
    exact fs this (oq hb)
   cases b' with
   |true=>
    obtain⟨⟨hr,h1,h2,h3,h4,h5,h6,h7,h8,h9,gI⟩,hq⟩:=hs.1 rfl
    simp only at h1 h2 h3 h4 h5 h6
    refine wp_cond_true hv ?_
    have e1:((f.toNat:Nat):Int)=f:=Int.toNat_of_nonneg h2
    have e2:((l.toNat:Nat):Int)=l:=Int.toNat_of_nonneg h7
    have e3:((s.toNat:Nat):Int)=s:=Int.toNat_of_nonneg h9
    have e4:((x.pos.toNat:Nat):Int)=x.pos:=Int.toNat_of_nonneg (by omega)
    have r0:=hI.rel 0
    have r2:=hI.rel 2
    have r3:=hI.rel 3
    have r4:=hI.rel 4
    rw[look]at r0 r2 r3 r4
    have r2:a.tmps.getD 2 undef= .int .i64 f:=r2
    have r3:a.tmps.getD 3 undef= .int .i64 l:=r3
    have r4:a.tmps.getD 4 undef= .int .i64 s:=r4
    refine Ty (x:=x) hI.core.inv hr h1 (f:=f.toNat) (p:=x.pos.toNat) (l:=l.toNat) (s:=s.toNat) e4.symm (by omega) (by omega) h5 h6 (by omega) (by omega) hI.defers hI.size r0 (by rw[e1];exact r2) (by rw[e2];exact r3) (by rw[e3];exact r4) (fun a' w' g1 g2 g3 g4=> ?_)
    exact xl (ex:= .ret) hI g1 g2 g3 g4 hq
   |false=>
    refine wp_cond_false hv ?_
    have hq:=hs.2 rfl
    refine wp_skip (.inl ⟨.normal,_,bl,hq,rfl,hI.lax ⟨rfl,fun i=> ?_⟩,Ext.refl _ _ _⟩)
    rw[look]
    have afG:Ev.look (wC [2,3,4] (x,bx,[.val (.int .i64 f),.val (.int .i64 l),.val (.int .i64 s)]):E (LY A)).tm i=
     if i=0 then .st 0 else if i=2 then .val (.int .i64 f)else if i=3 then .val (.int .i64 l)else if i=4 then .val (.int .i64 s)else .jk:=by
     show Ev.look [(0,_),(2,_),(3,_),(4,_)] i=_
     rw[aF,aF,aF,aF];rfl
    rw[afG]
    by_cases i0:i=57
    ·subst i0;exact .inl rfl
    ·rw[if_neg i0];exact .inr (.inl rfl)
  ·exact hs.elim
 ·exact hs.elim
abbrev Dz:Code:=a_ (aX (av Tryz.f43) 0)
abbrev TB(A:bG):List (Nat×(E (LY A)->af (Ex×E (LY A)))):=[(3000057,cx (eK [57,2,3,4]) (rwC A))]
def rwQ(A:bG)(bx:List Value)(f l s:Int)(x:LI):E (LY A):=⟨⟨x,bx⟩,[(0,.st 0),(2,.val (.int .i64 f)),(3,.val (.int .i64 l)),(4,.val (.int .i64 s))]⟩
def TC:Ex->List Nat
 | .normal=>[0,2,3,4]
 |_=>[]
def rwT(A:bG)(bx:List Value)(f l s:Int)(x:LI):af (Ex×E (LY A)):=
 let st:Int:=if ca A.O x.pos.toNat=true then 1 else x.ai
 let y:LI:=me A.O {x with ai:=st} (aN A.O x.pos.toNat)
 .aj (x.ai==0)
  (.aY (0<=x.pos)
    (.aj (st != 0)
      (.ae (.ret,lG A bx {x with ai:=1}))
      (.aj ((aN A.O x.pos.toNat:Int)==0)
        (.ae (.ret,lG A bx {x with ai:=1}))
        (.aY (0<=x.pos∧x.pos<A.O.size∧0<=(aN A.O x.pos.toNat:Int)∧(aN A.O x.pos.toNat:Int)<=4∧0<=x.line∧x.line<=8589934592)
          (.aY (ki (LY A) Tryz.f43.ntmps (BU Tw) (cx (eK [57,2,3,4]) (rwC A)))
            (.aj (ba A.O x.pos.toNat==96)
              (.aY (A.rows=true∧y.out.length<=8589934591∧0<=f∧f<=y.pos∧y.pos<=A.O.size∧0<=y.start∧y.start<=8589934592∧0<=l∧l<=8589934592∧0<=s∧s<=8589934592)
                (.ae (.ret,lG A bx (Tz A.O y f.toNat l.toNat s.toNat))))
              (.ae (.normal,rwQ A bx f l s y))))))))
  (.ae (.exit 0,lG A bx x))
theorem Yd(A:bG)(bx:List Value)(f l s:Int)(x:LI):(az (xh A (f_ A) Tryz.f43.ntmps (TB A) 0) Dz (rwQ A bx f l s x)).bind (fun xe=> .ae (xe.1,cU (TC xe.1) xe.2))=rwT A bx f l s x:=by kernel_rfl
def pD(f l s:Nat)(y:LS):LS:=if y.ai=0 then{y with out:=K0 y.out l ((f:Int)-s+1)}else y
theorem TD(O:U)(y:LS)(h:y.ai=0)(f l s:Nat):Tz O y.bg f l s=(pD f l s (dk O y 2 4 f)).bg:=by
 have e0:(dk O y 2 4 f).ai=0:=h
 unfold pD Tz
 rw[if_pos e0,ke]
 have e1:K0 (dk O y 2 4 f).out l ((f:Int)-s+1)=y.out++[⟨2,O.extract f y.p,4,l,(f:Int)-s+1⟩]:=by
  unfold K0 dk
  simp
 rw[e1]
 rfl
structure RI(O:U)(f l s:Nat)(p:LS×Nat):Prop where
 fit:Fit O p.1
 n:O.size+1<=p.1.p+p.2
 clean:p.1.ai=0
 f:f<p.1.p
 l:l<=8589934592
 s:s<=8589934592
theorem Ye(A:bG)(hA:A.Ok)(hr:A.rows=true)(bx:List Value)(f l s:Nat):At (LY A) Tryz.f43.ntmps (.block 0 (.loop Dz)) (fun p:LS×Nat=>rwQ A bx f l s p.1.bg)
 (fun p=> .aY (RI A.O f l s p) (.ae (.ret,lG A bx (pD f l s (eZ A.O f p.2 p.1)).bg))):=by
 refine At.det rI (RI A.O f l s) (fun p=>p.2) (fun p=>(.ret,lG A bx (pD f l s (eZ A.O f p.2 p.1)).bg))
  (At.same (C:=xh A (f_ A) Tryz.f43.ntmps (TB A) 0) (qI A hA) (iD A (fE A hA) _ (TB A) 0) TC (fun p=>Yd A bx f l s p.1.bg)) ?_
 rintro⟨x,n⟩ ⟨hf,hn,hc,hfp,hl,hs5⟩
 have hs:=hA.n1
 simp only at hf hn hc hfp
 have hx:=hf.le
 obtain⟨l1,l2,l3,l4,l5,l6,l7⟩:=hf.len hs
 obtain⟨m,rfl⟩:∃m,n=m+1:=⟨n-1,by omega⟩
 have bad:(ca A.O x.p=true∨aN A.O x.p=0)->(Ex.ret,lG A bx {x.bg with ai:=1})=(Ex.ret,lG A bx (pD f l s (eZ A.O f (m+1) x)).bg):=fun h=>by
  rw[eZ,if_pos h]
  rfl
 refine⟨fun h1=>⟨l4,fun h2=> .inr ⟨by simp,bad (.inl ?_)⟩,fun h2=> ?_⟩,fun h1=> ?_⟩
 ·cases hb:ca A.O x.p with
  |true=>rfl
  |false=>
   have h2:((if ca A.O x.p=true then 1 else(x.ai:Int)) != 0)=true:=h2
   rw[hb,hc]at h2
   exact absurd h2 (by decide)
 ·have hb:ca A.O x.p=false:=by
   cases hb:ca A.O x.p with
   |false=>rfl
   |true=>
    have h2:((if ca A.O x.p=true then 1 else(x.ai:Int)) != 0)=false:=h2
    rw[if_pos hb]at h2
    exact absurd h2 (by decide)
  have wm:¬ca A.O x.p=true:=by rw[hb];decide
  have est:(if ca A.O x.bg.pos.toNat=true then 1 else x.bg.ai)=x.bg.ai:=if_neg wm
  simp only[est]
  refine⟨fun h3=> .inr ⟨by simp,bad (.inr (nn h3))⟩,fun h3=> ?_⟩
  have X9:¬aN A.O x.p=0:=js h3
  have oL:¬(ca A.O x.p=true∨aN A.O x.p=0):=fun h=>h.elim wm X9
  have hp:x.p<A.O.size:=by
   by_cases h:x.p<A.O.size
   ·exact h
   ·exact absurd (by simp[aN,h]) X9
  obtain⟨w1,w2,w3⟩:=lF hp
  have ey:me A.O {x.bg with ai:=x.bg.ai} (aN A.O x.bg.pos.toNat)=(br A.O x (aN A.O x.p)).bg:=qb A.O x _
  rw[ey]
  have Y1:=hf.step (n:=aN A.O x.p) w1 w3
  have bn:(br A.O x (aN A.O x.p)).ai=0:=by unfold br;split<;>exact hc
  have hpp:=xi A.O x (aN A.O x.p)
  obtain⟨l1',l2',l3',l4',l5',l6',l7'⟩:=Y1.len hs
  have ais:(br A.O x (aN A.O x.p)).out.length<=8589934591:=by
   have:=Y1.out
   have:=Y1.le
   have:=Nat.le_add_right (br A.O x (aN A.O x.p)).out.length (if(br A.O x (aN A.O x.p)).ends=true then 1 else 0)
   omega
  refine⟨⟨l4,by show(x.p:Int)<_;omega,Int.natCast_nonneg _,by show(aN A.O x.p:Int)<=4;omega,l6,l7⟩,TA A hA,fun h4=>⟨⟨hr,ais,Int.natCast_nonneg _,?_,l5',l2',l3',Int.natCast_nonneg _,by omega,Int.natCast_nonneg _,by omega⟩,.inr ⟨by simp,?_⟩⟩,fun h4=> .inl ⟨rfl,(br A.O x (aN A.O x.p),m),rfl,by show m<m+1;omega,⟨Y1,by show _<=(br _ _ _).p+m;omega,bn,by show f<(br _ _ _).p;omega,hl,hs5⟩,?_⟩⟩
  ·show(f:Int)<=(br A.O x (aN A.O x.p)).p
   omega
  ·have h4:ba A.O x.p=96:=by
    have h4:(ba A.O x.p==96)=true:=h4
    simpa using h4
   have e:eZ A.O f (m+1) x=dk A.O (br A.O x (aN A.O x.p)) 2 4 f:=by rw[eZ,if_neg oL,if_pos h4]
   rw[e]
   show(Ex.ret,lG A bx (Tz A.O (br A.O x (aN A.O x.p)).bg ((f:Nat):Int).toNat ((l:Nat):Int).toNat ((s:Nat):Int).toNat))=_
   rw[TD A.O _ bn]
   rfl
  ·have h4:¬ba A.O x.p=96:=by
    have h4:(ba A.O x.p==96)=false:=h4
    simpa using h4
   have e:eZ A.O f (m+1) x=eZ A.O f m (br A.O x (aN A.O x.p)):=by rw[eZ,if_neg oL,if_neg h4]
   rw[e]
 ·have h1:((x.ai:Int)==0)=false:=h1
  rw[hc]at h1
  exact absurd h1 (by decide)
def TE(A:bG)(p:LI×List Value×List SV):af (Ex×E (LY A)):=match p.2.2 with
 |[.val (.int .i64 f),.val (.int .i64 l),.val (.int .i64 s)]=> .aY (p.1=p.1.dL.bg∧A.rows=true∧0<=f∧0<=l∧0<=s∧RI A.O f.toNat l.toNat s.toNat (p.1.dL,A.O.size)) (.ae (.ret,lG A p.2.1 (pD f.toNat l.toNat s.toNat (eZ A.O f.toNat A.O.size p.1.dL)).bg))
 |_=> .fail
theorem TF(A:bG)(hA:A.Ok):cy (LY A) Tryz.f43.ntmps 0 (.loop Dz) (cx (eK [2,3,4]) (TE A)):=by
 refine eW (F:=wC [2,3,4]) ⟨fun p bl a w Q hI hs=> ?_,fun p Q hb _=>hb.elim⟩ (kf [2,3,4])
 obtain⟨x,bx,vs⟩:=p
 unfold TE at hs
 split at hs
 ·rename_i f l s heq
  obtain rfl:vs=_:=heq
  obtain⟨⟨h1,hr,h2,h3,h4,h5⟩,hq⟩:=hs
  simp only at h1
  have e1:((f.toNat:Nat):Int)=f:=Int.toNat_of_nonneg h2
  have e2:((l.toNat:Nat):Int)=l:=Int.toNat_of_nonneg h3
  have e3:((s.toNat:Nat):Int)=s:=Int.toNat_of_nonneg h4
  have gy:cL (LY A) Tryz.f43.ntmps (rwQ A bx f.toNat l.toNat s.toNat (LI.dL x).bg) bl a w:=by
   have e:(wC [2,3,4] (x,bx,[.val (.int .i64 f),.val (.int .i64 l),.val (.int .i64 s)]):E (LY A))=rwQ A bx f.toNat l.toNat s.toNat (LI.dL x).bg:=by
    rw[←h1,e1,e2,e3];rfl
   rw[←e];exact hI
  exact(Ye A hA hr bx f.toNat l.toNat s.toNat).wp (LI.dL x,A.O.size) bl a w Q gy ⟨h5,hq⟩
 ·exact hs.elim
def ait(A:bG)(bx:List Value)(X:LS)(y:LI):af (SV×aq (LY A)):=
 .aY (cy (LY A) Tryz.f43.ntmps 0 (.loop Dz) (cx (eK [2,3,4]) (TE A)))
  (.aY (y=y.dL.bg∧A.rows=true∧0<=(X.p:Int)∧0<=(X.line:Int)∧0<=(X.st:Int)∧RI A.O (X.p:Int).toNat (X.line:Int).toNat (X.st:Int).toNat (y.dL,A.O.size))
    (.ae (eC,⟨(pD (X.p:Int).toNat (X.line:Int).toNat (X.st:Int).toNat (eZ A.O (X.p:Int).toNat A.O.size y.dL)).bg,bx⟩)))
theorem Yf(A:bG)(X:LS)(bx:List Value):eh (xh A (f_ A) Tryz.f43.ntmps [(0,cx (eK [2,3,4]) (TE A))] 0) Tryz.f43 [.st 0] ⟨X.bg,bx⟩=ait A bx X {X.bg with pos:=IntKind.i64.wrap ((X.p:Int)+1)}:=by kernel_rfl
def afI(s:U)(x:LS):LS:=pD x.p x.line x.st (eZ s x.p s.size {x with p:=x.p+1})
def ZT(A:bG):ej (LY A):=⟨43,#[],true,X0 A (fun x=>A.rows=true∧x.p<A.O.size∧x.ai=0) (afI A.O)⟩
theorem TG(A:bG)(hA:A.Ok):(ZT A).Ok:=by
 refine rH hA Tryz.func43 (fun args w=>by kernel_rfl) (iD A (fE A hA) Tryz.f43.ntmps [(0,cx (eK [2,3,4]) (TE A))] 0) (fun args c Q h=> ?_)
 obtain⟨X,bx,rfl,rfl,hf,⟨hr,h4,h5⟩,hq⟩:=uT h
 have hs:=hA.n1
 obtain⟨l1,l2,l3,l4,l5,l6,l7⟩:=hf.len hs
 have w1:IntKind.i64.wrap ((X.p:Int)+1)=((X.p+1:Nat):Int):=aG (by omega) (by omega)
 rw[Yf,w1]
 refine⟨TF A hA,⟨rfl,hr,l4,l6,l2,⟨hf.at (Nat.le_succ _) h4 X.ai,?_,h5,?_,?_,?_⟩⟩,hq⟩
 ·show _<=X.p+1+A.O.size;omega
 ·show X.p<X.p+1;omega
 ·show X.line<=8589934592;omega
 ·show X.st<=8589934592;omega
theorem TH:(Tryz.prog.info? 9).map (fun i=>(i.zero,i.size,i.bytes))=some (some (.string ⟨#[]⟩),1,16):=by kernel_rfl
def strs(l:List U):List Value:=l.map fun s=> .string s
theorem Ol(w:World):(w.alloc (.cells #[] 9)).ownsRow w.heap.size 9 1 (.slice (some ⟨w.heap.size,0,none⟩) 0 0) 0 []:=
 ⟨rfl,.inr ⟨w.heap.size,0,#[],rfl,Nat.le_refl _,heap_alloc_new w _,Nat.le_refl _,Nat.zero_le _,rfl,rfl⟩⟩
theorem Lq{w:World}{base n:Nat}{v:Value}{xs:List Value}(t:U)(bo:w.ownsRow base 9 1 v n xs)(cN:base<=w.heap.size)(hn:n<=8589934592)
 {ops:Array Oper}{rest:List Oper}{o:Oper}{a:Act}{Q:Exit->Act->World->Prop}(DR:o.guard=none)(s x:Operand)
 (ho:o.op= .call {callee:= .builtin .append,args:=#[s,x],argTypes:=#[39,39]})(hs:a.eval s=v)(hx:a.eval x= .slice (some ⟨w.heap.size,0,none⟩) 1 1)
 (h:∀g cap w',w'.ownsRow base 9 1 (.slice (some ⟨g,0,none⟩) (n+1) cap) (n+1) (xs++[.string t])->Below base w w'->wpList Tryz.prog ops Q rest (a.put o.dst (.slice (some ⟨g,0,none⟩) (n+1) cap)) w'):
 wpList Tryz.prog ops Q (o::rest) a (w.alloc (.cells #[.string t] 9)):=by
 obtain⟨i0,FH,Eh,L5,HU⟩:=info_parts TH
 have hml:n+1<=maxLen:=by simp only[maxLen];omega
 refine wpList_append_lies _ DR s x 39 ho base 9 i0 _ 1 16 Tryz.underlying39 FH Eh L5 HU rfl (by omega) v n xs hs (fW bo _)
  ⟨w.heap.size,0,none⟩ 1 1 [.string t] hx rfl (World.news_of_block (cs:=#[.string t]) (t:=9) (fr:=(0,0)) (heap_alloc_new w _)) (fun u hu=>by simp only[List.mem_singleton]at hu;subst hu;rfl) Nat.one_pos hml (by omega) (by simp;omega) (w.alloc (.cells #[.string t] 9)).heap.size rfl (fun g cap w' h1 h2 _ _=>h g cap w' h1 ?_)
 have h3:=Below.alloc (Below.refl base w) cN (.cells #[.string t] 9)
 refine h3.trans ⟨h2.os,h2.tape,h2.output,h2.size,fun k hk=>h2.block k (by simp;omega) (fun e=> ?_)⟩
 rcases bo.2 with⟨rfl,_⟩|⟨g',NK,cur,rfl,hb,_⟩
 ·cases e
 ·have e':some k=some g':=e
  have:k=g':=Option.some.inj e'
  omega
def uV(s:U):Nat->Nat->Nat->List U
 |0,_,f=>[s.extract f s.size]
 |n+1,i,f=>if i<s.size then(if(s.get! i).toNat=32 then s.extract f i::uV s n (i+1) (i+1)else uV s n (i+1) f)else [s.extract f s.size]
def ot(s:U):List U:=uV s s.size 0 0
structure TI(v0 vo vf vi:Value)(a:Act):Prop where
 defers:a.defers=[]
 size:a.tmps.size=32
 s0:a.tmps[0]? =some v0
 s3:a.tmps[3]? =some vo
 s4:a.tmps[4]? =some vf
 s5:a.tmps[5]? =some vi
theorem TI.lit{v0 vo vf vi:Value}{a:Act}(h:TI v0 vo vf vi a):∃x:Nat->Value,a={tmps:=#[v0,x 1,x 2,vo,vf,vi,x 6,x 7,x 8,x 9,x 10,x 11,x 12,x 13,x 14,x 15,x 16,x 17,x 18,x 19,x 20,x 21,x 22,x 23,x 24,x 25,x 26,x 27,x 28,x 29,x 30,x 31],defers:=[]}:=by
 refine⟨fun i=>a.tmps.getD i undef,?_⟩
 obtain⟨t,d⟩:=a
 obtain⟨h1,h2,k0,k3,k4,k5⟩:=h
 simp only at h1 h2 k0 k3 k4 k5
 subst h1
 have e0:t.getD 0 undef=v0:=by rw[Array.getD_eq_getD_getElem?,k0];rfl
 have e3:t.getD 3 undef=vo:=by rw[Array.getD_eq_getD_getElem?,k3];rfl
 have e4:t.getD 4 undef=vf:=by rw[Array.getD_eq_getD_getElem?,k4];rfl
 have e5:t.getD 5 undef=vi:=by rw[Array.getD_eq_getD_getElem?,k5];rfl
 have ht:=gx 32 t h2
 rw[←e0,←e3,←e4,←e5]
 exact congrArg (fun t=>({tmps:=t,defers:=[]}:Act)) ht
abbrev mH:Code:=av Tryz.f44
abbrev rK:Code:=a_ (aX mH 0)
abbrev Yg(n:Nat):Code:=bQ (ah n mH)
theorem Yh:(Tryz.f44).body=some (.seq (Yg 0) (.seq (Yg 1) (.seq (Yg 2) (.seq (.seq (bQ (Yg 3)) (.block 0 (.loop rK))) (ah 4 mH))))):=by kernel_rfl
theorem TJ{w:World}{s:U}{i:Nat}{vo vf:Value}(h:¬i<s.size)
 (a:Act)(hz:TI (.string s) vo vf (.int .i64 i) a)(Q:Exit->Act->World->Prop)(hQ:∀a',TI (.string s) vo vf (.int .i64 i) a'->Q (.exit 0) a' w):rK.wp Tryz.prog Q a w:=by
 obtain⟨y,rfl⟩:=hz.lit
 clear hz
 have h1:¬(i:Int)<(s.size:Int):=by omega
 simp only[rK,mH,av,Tryz.f44,Option.getD,aX,a_,cond,Nat.beq]
 go_wp2_with fail
 exact⟨rfl,rfl,rfl,rfl,rfl,rfl⟩
theorem TK{w:World}{s:U}{i f base n:Nat}{vo:Value}{xs:List Value}(h:i<s.size)(hs:s.size<=8589934592)(hf:f<=i)(bo:w.ownsRow base 9 1 vo n xs)(cN:base<=w.heap.size)(hn:n<=8589934592)
 (a:Act)(hz:TI (.string s) vo (.int .i64 f) (.int .i64 i) a)(Q:Exit->Act->World->Prop)
 (h1:(s.get! i).toNat=32->∀a' w' g cap,TI (.string s) (.slice (some ⟨g,0,none⟩) (n+1) cap) (.int .i64 (i+1:Nat)) (.int .i64 (i+1:Nat)) a'->w'.ownsRow base 9 1 (.slice (some ⟨g,0,none⟩) (n+1) cap) (n+1) (xs++[.string (s.extract f i)])->Below base w w'->Q .normal a' w')
 (h2:(s.get! i).toNat≠32->∀a',TI (.string s) vo (.int .i64 f) (.int .i64 (i+1:Nat)) a'->Q .normal a' w):rK.wp Tryz.prog Q a w:=by
 obtain⟨y,rfl⟩:=hz.lit
 clear hz
 have Cs:IntKind.i64.wrap ((i:Int)+1)=((i+1:Nat):Int):=by rw[show(i:Int)+1=((i+1:Nat):Int)by omega];exact aG (by omega) (by omega)
 have k1:(i:Int)<(s.size:Int):=by omega
 have k2:(0:Int)<=(i:Int):=by omega
 have k3:(0:Int)<=(f:Int):=by omega
 have k4:(f:Int)<=(i:Int):=by omega
 have k5:(i:Int)<=(s.size:Int):=by omega
 rw[dP s i h]at h1 h2
 by_cases he:s[i].toNat=32
 ·have h1:=h1 he
  clear h2
  have DQ:(((s[i].toNat:Nat):Int)==32)=true:=by simp;omega
  simp only[rK,mH,av,Tryz.f44,Option.getD,aX,a_,cond,Nat.beq]
  go_wp2_with (at_builtin;refine Lq (s.extract f i) bo cN (by omega) (by rfl) _ _ (by rfl) (by rfl) (by rfl) ?_;intro g cap w1 hw2 oA)
  all_goals exact h1 _ _ _ _ ⟨rfl,rfl,rfl,rfl,rfl,rfl⟩ hw2 oA
 ·have h2:=h2 he
  clear h1
  have DQ:(((s[i].toNat:Nat):Int)==32)=false:=by simp;omega
  simp only[rK,mH,av,Tryz.f44,Option.getD,aX,a_,cond,Nat.beq]
  go_wp2_with fail
  all_goals exact⟨rfl,rfl,rfl,rfl,rfl,rfl⟩
theorem DA{w0:World}{s:U}{base:Nat}(hs:s.size<=8589934592)(zM:base<=w0.heap.size)(ws:List U)(Q:Exit->Act->World->Prop)
 (hQ:∀a w vo (n f i:Nat) xs,f<=s.size->n<=s.size->TI (.string s) vo (.int .i64 f) (.int .i64 i) a->w.ownsRow base 9 1 vo n xs->xs++[.string (s.extract f s.size)]=strs ws->Below base w0 w->Q .normal a w):
 ∀(d i f n:Nat) (vo:Value) (xs:List Value) (a:Act) (w:World),s.size<=i+d->f<=i->i<=s.size->n<=i->TI (.string s) vo (.int .i64 f) (.int .i64 i) a->w.ownsRow base 9 1 vo n xs->xs++strs (uV s d i f)=strs ws->Below base w0 w->
  Code.rounds Tryz.prog rK (Exit.inBlock 0 Q) (d+1) a w
 |0,i,f,n,vo,xs,a,w,hd,hf,hi,hn,hz,bo,hx,hB=>by
  rw[rounds_succ]
  exact TJ (by omega) a hz _ (fun a' z'=>hQ a' w vo n f i xs (by omega) (by omega) z' bo hx hB)
 |d+1,i,f,n,vo,xs,a,w,hd,hf,hi,hn,hz,bo,hx,hB=>by
  rw[rounds_succ]
  by_cases hp:i<s.size
  ·simp only[uV,if_pos hp]at hx
   refine TK hp hs hf bo (Nat.le_trans zM hB.size) (by omega) a hz _ (fun he a' w' g cap z' o' b'=> ?_) (fun he a' z'=> ?_)
   ·rw[if_pos he]at hx
    refine DA hs zM ws Q hQ d (i+1) (i+1) (n+1) _ _ a' w' (by omega) (by omega) (by omega) (by omega) z' o' ?_ (hB.trans b')
    rw[List.append_assoc];exact hx
   ·rw[if_neg he]at hx
    exact DA hs zM ws Q hQ d (i+1) f n vo xs a' w (by omega) (by omega) (by omega) (by omega) z' bo hx hB
  ·simp only[uV,if_neg hp]at hx
   exact TJ hp a hz _ (fun a' z'=>hQ a' w vo n f i xs (by omega) (by omega) z' bo hx hB)
theorem TL{w:World}{s:U}(B C:Code)(Q:Exit->Act->World->Prop)
 (hQ:∀a,TI (.string s) (.slice (some ⟨w.heap.size,0,none⟩) 0 0) (.int .i64 (0:Nat)) (.int .i64 (0:Nat)) a->B.wp Tryz.prog (Exit.then (fun a w=>C.wp Tryz.prog Q a w) Q) a (w.alloc (.cells #[] 9))):
 (Code.seq (Yg 0) (.seq (Yg 1) (.seq (Yg 2) (.seq (.seq (bQ (Yg 3)) B) C)))).wp Tryz.prog Q {tmps:=#[.string s]++Array.replicate 31 undef,defers:=[]} w:=by
 simp only[Yg,bQ,mH,av,Tryz.f44,Option.getD,ah,cO,Option.map,Array.replicate_succ,Array.replicate_zero,List.push_toArray,List.append_toArray,List.nil_append,List.cons_append]
 go_wp2_with fail
 rename_i K hK
 refine Code.wp_mono (fun e a w h=> ?_) (hQ _ ⟨rfl,rfl,rfl,rfl,rfl,rfl⟩)
 cases e<;>first|exact hK _ _ h|exact h
theorem Yi{w:World}{s:U}{base n f:Nat}{vo vi:Value}{xs:List Value}(hf:f<=s.size)(hs:s.size<=8589934592)(bo:w.ownsRow base 9 1 vo n xs)(cN:base<=w.heap.size)(hn:n<=8589934592)(a:Act)(hz:TI (.string s) vo (.int .i64 f) vi a)(Q:Exit->Act->World->Prop)
 (hQ:∀a' w' g cap,a'.defers=[]->a'.tmps[2]? =some (.slice (some ⟨g,0,none⟩) (n+1) cap)->w'.ownsRow base 9 1 (.slice (some ⟨g,0,none⟩) (n+1) cap) (n+1) (xs++[.string (s.extract f s.size)])->Below base w w'->Q .ret a' w'):(ah 4 mH).wp Tryz.prog Q a w:=by
 obtain⟨x,rfl⟩:=hz.lit
 clear hz
 have k3:(0:Int)<=(f:Int):=by omega
 have k4:(f:Int)<=(s.size:Int):=by omega
 simp only[mH,av,Tryz.f44,Option.getD,ah,cO,Option.map]
 go_wp2_with (at_builtin;refine Lq (s.extract f s.size) bo cN (by omega) (by rfl) _ _ (by rfl) (by rfl) (by rfl) ?_;intro g cap w1 hw2 oA)
 exact hQ _ _ _ _ rfl rfl hw2 oA
theorem JB(w:World)(s:U)(hs:s.size<=8589934592):Calls Tryz.prog 44 #[.string s] w fun e w'=>∃g cap,e= .returned (.slice (some ⟨g,0,none⟩) (ot s).length cap)∧
 w'.ownsRow w.heap.size 9 1 (.slice (some ⟨g,0,none⟩) (ot s).length cap) (ot s).length (strs (ot s))∧Below w.heap.size w w':=by
 refine calls_of_wp Tryz.func44 Yh ?_
 have yV:(Tryz.f44).ntmps-(#[.string s]:Array Value).size=31:=by kernel_rfl
 rw[yV]
 have hB0:Below w.heap.size w (w.alloc (.cells #[] 9)):=Below.alloc (Below.refl _ _) (Nat.le_refl _) _
 refine TL _ _ _ (fun a z=> ?_)
 refine wp_block (wp_loop_rounds (s.size+1) ?_)
 refine DA (w0:=w) (base:=w.heap.size) hs (Nat.le_refl _) (ot s) _ (fun a2 w2 vo n f i xs hf hn z2 o2 hx b2=> ?_) s.size 0 0 0 _ [] a _ (by omega) (Nat.le_refl _) (Nat.zero_le _) (Nat.le_refl _) z (Ol w) rfl hB0
 show(ah 4 mH).wp _ _ a2 w2
 refine Yi hf hs o2 b2.size (by omega) a2 z2 _ (fun a3 w3 g cap d0 d2 o3 b3=> ?_)
 rw[hx]at o3
 have hl:n+1=(ot s).length:=by
  have:=o3.1
  rw[show(strs (ot s)).length=(ot s).length from List.length_map _]at this
  omega
 rw[hl]at o3 d2
 exact⟨d0,_,bK (k:=2) (by kernel_rfl) d2,g,cap,rfl,o3,b2.trans b3⟩
def isT:Operand->Nat->Bool
 | .tmp n,i=>Nat.beq n i
 |_,_=>false
def jh:Code->Nat->Code
 | .seq a b,i=>match jh a i with
  | .skip=>jh b i
  |c=>c
 | .cond c a b,i=>bif isT c i then .cond c a b else match jh a i with
  | .skip=>jh b i
  |c=>c
 | .block _ b,i=>jh b i
 | .loop b,i=>jh b i
 |_,_=> .skip
def BV:Code->Code
 | .cond _ _ e=>e
 |c=>c
def xX:Code->Code
 | .seq _ b=>b
 |c=>c
abbrev mf:Code:=av Tryz.f29
abbrev Am:Code:=jh mf 125
abbrev Yj:Code:=bQ (bQ (BV Am))
abbrev ou:Code:=a_ (aX mf 1)
abbrev GJ:Code:=xX (BV Am)
theorem Yk:Am= .cond (.tmp 125) (wa Am) (.seq (.seq Yj (.block 1 (.loop ou))) GJ):=by kernel_rfl
structure SG(A:bG)(f:Nat)(vs vn vi:Value)(a:Act):Prop where
 defers:a.defers=[]
 size:a.tmps.size=138
 g0:a.tmps.getD 0 undef= .pointer (some ⟨A.S,0,none⟩)
 g2:a.tmps.getD 2 undef= .int .i64 f
 g31:a.tmps.getD 31 undef=vs
 g32:a.tmps.getD 32 undef=vn
 g33:a.tmps.getD 33 undef=vi
theorem TM(w:World)(s:U)(h:ot s=jS)(hs:s.size<=8589934592):Calls Tryz.prog 44 #[.string s] w fun e w'=>∃g cap,e= .returned (.slice (some ⟨g,0,none⟩) jS.length cap)∧
 w'.ownsRow w.heap.size 9 1 (.slice (some ⟨g,0,none⟩) jS.length cap) jS.length (strs jS)∧Below w.heap.size w w':=by
 have:=JB w s hs
 rw[h]at this
 exact this
theorem TN{A:bG}{f:Nat}{w:World}{a:Act}(hd:a.defers=[])(hs:a.tmps.size=138)(e0:a.tmps.getD 0 undef= .pointer (some ⟨A.S,0,none⟩))(e2:a.tmps.getD 2 undef= .int .i64 f){Q:Exit->Act->World->Prop}
 (hQ:∀a' w' g cap,SG A f (.slice (some ⟨g,0,none⟩) jS.length cap) (.int .i64 jS.length) (.int .i64 (0:Nat)) a'->w'.ownsRow w.heap.size 9 1 (.slice (some ⟨g,0,none⟩) jS.length cap) jS.length (strs jS)->Below w.heap.size w w'->Q .normal a' w'):Yj.wp Tryz.prog Q a w:=by
 obtain⟨y,hy,ha⟩:=df 138 a hd hs
 rw[ha]
 rw[←hy]at e0 e2
 clear ha hy hd hs
 simp only[Yj,Am,mf,bQ,BV,jh,isT,av,Tryz.f29,Option.getD,Nat.beq,cond,List.range,List.range.loop,List.map]
 rw[e0,e2]
 go_wp2_with ((go_at_call 44;refine(TM _ _ (by kernel_rfl) (by decide)).mono ?_;rintro en w' ⟨g,cap,rfl,ho,hb⟩))
 exact hQ _ _ g cap ⟨rfl,rfl,rfl,rfl,rfl,rfl,rfl⟩ ho hb
theorem acq{A:bG}{f:Nat}{w:World}{vs:Value}{n:Nat}(a:Act)(hz:SG A f vs (.int .i64 n) (.int .i64 n) a){Q:Exit->Act->World->Prop}(hQ:∀a',SG A f vs (.int .i64 n) (.int .i64 n) a'->Q (.exit 1) a' w):ou.wp Tryz.prog Q a w:=by
 obtain⟨hd,hs,e0,e2,UH,UI,UJ⟩:=hz
 obtain⟨y,hy,ha⟩:=df 138 a hd hs
 rw[ha]
 rw[←hy]at e0 e2 UH UI UJ
 clear ha hy hd hs
 simp only[ou,mf,av,Tryz.f29,Option.getD,aX,a_,Nat.beq,cond,List.range,List.range.loop,List.map]
 rw[e0,e2,UH,UI,UJ]
 go_wp2_with fail
 exact⟨rfl,rfl,rfl,rfl,rfl,rfl,rfl⟩
theorem afJ{A:bG}{x:LI}{w:World}(h:bj A x w){f g cap n i p:Nat}{u:U}(hc:w.cell? ⟨g,i,none⟩=some (.string u))(hi:i<n)(hn:n<=1000)(hp:x.pos=p)(hps:p<=A.O.size)
 (hb:Lib.hasPrefix (A.O.extract p A.O.size).data.toList u.data.toList=false)(a:Act)(hz:SG A f (.slice (some ⟨g,0,none⟩) n cap) (.int .i64 n) (.int .i64 i) a){Q:Exit->Act->World->Prop}
 (hQ:∀a',SG A f (.slice (some ⟨g,0,none⟩) n cap) (.int .i64 n) (.int .i64 (i+1:Nat)) a'->Q .normal a' w.drew):ou.wp Tryz.prog Q a w:=by
 obtain⟨vo,vr,qc,_⟩:=h.jI
 have c0:w.cell? ⟨A.S,0,none⟩=some (.string A.O):=ag qc rfl
 have c1:w.cell? ⟨A.S,1,none⟩=some (.int .i64 p):=by rw[←hp];exact ag qc rfl
 clear h qc
 have Cs:IntKind.i64.wrap ((i:Int)+1)=((i+1:Nat):Int):=aG (by omega) (by omega)
 have k1:(i:Int)<(n:Int):=by omega
 have k2:(0:Int)<=(i:Int):=by omega
 have k3:(0:Int)<=(p:Int):=by omega
 have k4:(p:Int)<=(A.O.size:Int):=by omega
 obtain⟨hd,hs,e0,e2,UH,UI,UJ⟩:=hz
 obtain⟨y,hy,ha⟩:=df 138 a hd hs
 rw[ha]
 rw[←hy]at e0 e2 UH UI UJ
 clear ha hy hd hs
 have hP:=fun w=>Tryz.strings_HasPrefix (A.O.extract p A.O.size) u w
 simp only[ou,mf,av,Tryz.f29,Option.getD,aX,a_,Nat.beq,cond,List.range,List.range.loop,List.map]
 rw[e0,e2,UH,UI,UJ]
 rw[hb]at hP
 go_wp2_with fail
 go_region_held3 (fun w'=>w'.cell? ⟨A.S,0,none⟩=some (.string A.O)∧w'.cell? ⟨A.S,1,none⟩=some (.int .i64 p)) (go_keep) ((go_at_call 24;refine(hP _).mono ?_;rintro en w' ⟨rfl,rfl⟩))
 go_split_ands
 go_wp2_with fail
 exact⟨rfl,rfl,rfl,rfl,rfl,rfl,rfl⟩
theorem acr{A:bG}{x:LI}{w:World}(h:bj A x w)(hr:A.rows=true)(hol:x.out.length<=8589934592){f g cap n i p:Nat}{u:U}(hc:w.cell? ⟨g,i,none⟩=some (.string u))(hi:i<n)(hn:n<=1000)(hp:x.pos=p)(hps:p<=A.O.size)(hf:f<=p)(h3:0<=x.start)(h4:x.start<=8589934592)
 (hu:p+u.size<=A.O.size)(hb:Lib.hasPrefix (A.O.extract p A.O.size).data.toList u.data.toList=true)(a:Act)(hz:SG A f (.slice (some ⟨g,0,none⟩) n cap) (.int .i64 n) (.int .i64 i) a){Q:Exit->Act->World->Prop}
 (hQ:∀a' w',a'.defers=[]->a'.tmps.size=138->bj A (jg A.O {x with pos:=(p+u.size:Nat)} 3 0 f) w'->eR A w w'->Q .ret a' w'):ou.wp Tryz.prog Q a w:=by
 obtain⟨vo,vr,qc,_⟩:=h.jI
 have eJ:=h.ok.n1
 have c0:w.cell? ⟨A.S,0,none⟩=some (.string A.O):=ag qc rfl
 have c1:w.cell? ⟨A.S,1,none⟩=some (.int .i64 p):=by rw[←hp];exact ag qc rfl
 have f1:w.frozen? ⟨A.S,1,none⟩=false:=aV qc
 have Hx:bj A {x with pos:=(p+u.size:Nat)} (w.drew.setCell ⟨A.S,1,none⟩ (.int .i64 (p+u.size:Nat))):=eB (h.kept dm) (fun _ _=>rfl) rfl rfl
 have Hf:eR A w (w.drew.setCell ⟨A.S,1,none⟩ (.int .i64 (p+u.size:Nat))):=eR.trans (hH w) (ig (h.kept dm) _ _)
 have TO:=pC Hx hr hol 3 0 f (p+u.size) (.inr (.inr (.inr (.inl rfl)))) rfl (by omega) hu h3 h4
 clear h qc Hx
 have Cs:IntKind.i64.wrap ((p:Int)+(u.size:Nat))=((p+u.size:Nat):Int):=aG (by omega) (by omega)
 have k1:(i:Int)<(n:Int):=by omega
 have k2:(0:Int)<=(i:Int):=by omega
 have k3:(0:Int)<=(p:Int):=by omega
 have k4:(p:Int)<=(A.O.size:Int):=by omega
 obtain⟨hd,hs,e0,e2,UH,UI,UJ⟩:=hz
 obtain⟨y,hy,ha⟩:=df 138 a hd hs
 rw[ha]
 rw[←hy]at e0 e2 UH UI UJ
 clear ha hy hd hs
 have hP:=fun w=>Tryz.strings_HasPrefix (A.O.extract p A.O.size) u w
 simp only[ou,mf,av,Tryz.f29,Option.getD,aX,a_,Nat.beq,cond,List.range,List.range.loop,List.map]
 rw[e0,e2,UH,UI,UJ]
 rw[hb]at hP
 go_wp2_with fail
 go_region_held3 (fun w'=>w'.cell? ⟨A.S,0,none⟩=some (.string A.O)∧w'.cell? ⟨A.S,1,none⟩=some (.int .i64 p)) (go_keep) ((go_at_call 24;refine(hP _).mono ?_;rintro en w' ⟨rfl,rfl⟩))
 go_split_ands
 go_wp2_with ((go_at_call 27;refine TO.mono ?_;rintro en w' ⟨rfl,wb,qn⟩))
 exact hQ _ _ rfl rfl wb (eR.trans Hf qn)
theorem Yl{A:bG}{x:LI}{w:World}(h:bj A x w){f:Nat}{vs vn vi:Value}(a:Act)(hz:SG A f vs vn vi a){Q:Exit->Act->World->Prop}
 (hQ:∀a' w',a'.defers=[]->a'.tmps.size=138->bj A {x with ai:=1} w'->eR A w w'->Q .normal a' w'):GJ.wp Tryz.prog Q a w:=by
 obtain⟨vo,vr,qc,_⟩:=h.jI
 have c7:w.cell? ⟨A.S,7,none⟩=some (.int .i64 x.ai):=ag qc rfl
 have f7:w.frozen? ⟨A.S,7,none⟩=false:=aV qc
 have Hx:=eB (x':={x with ai:=1}) h (o:=7) (v:= .int .i64 1) (fun _ _=>rfl) rfl rfl
 have Hf:=ig h 7 (.int .i64 1)
 clear h qc
 obtain⟨hd,hs,e0,e2,UH,UI,UJ⟩:=hz
 obtain⟨y,hy,ha⟩:=df 138 a hd hs
 rw[ha]
 rw[←hy]at e0 e2 UH UI UJ
 clear ha hy hd hs
 simp only[GJ,Am,mf,xX,BV,jh,isT,av,Tryz.f29,Option.getD,Nat.beq,cond,List.range,List.range.loop,List.map]
 rw[e0]
 go_wp2_with fail
 exact hQ _ _ rfl rfl Hx Hf
end
end Sc
end Go.Proofs.YtogkcphobhhbdaaGreatDoor
