/- The scanner of the program told as plain functions, part 17: texts joined and shortened by a program (wip/tools/mini.py). -/
import Derived.Test.YtogkcphobhhbdaaGreatDoorYc16
import Derived.BigRegion
set_option linter.unusedVariables false
set_option linter.unusedSimpArgs false
set_option maxHeartbeats 32000000
namespace Go.Proofs.YtogkcphobhhbdaaGreatDoor
open Go Go.RowKit Go.Lib
namespace Sc
open Ev
set_option maxRecDepth 100000
noncomputable section
theorem TP{s u:U}(h:Lib.hasPrefix s.data.toList u.data.toList=true):u.size<=s.size:=by
 have h1:u.data.toList<+:s.data.toList:=List.isPrefixOf_iff_prefix.1 h
 have:=h1.length_le
 rw[Array.length_toList,Array.length_toList]at this
 exact this
structure Sgn(A:bG)(x:LI)(p f:Nat):Prop where
 rows:A.rows=true
 out:x.out.length<=8589934592
 pos:x.pos=p
 le:p<=A.O.size
 f:f<=p
 s0:0<=x.start
 s1:x.start<=8589934592
theorem Lr{A:bG}{x:LI}{p f:Nat}(hx:Sgn A x p f){g cap base:Nat}{w0:World}{res:Option U}{Q:Exit->Act->World->Prop}
 (hN:res=none->∀a' w',SG A f (.slice (some ⟨g,0,none⟩) jS.length cap) (.int .i64 jS.length) (.int .i64 jS.length) a'->bj A x w'->eR A w0 w'->Q .normal a' w')
 (hY:∀u,res=some u->∀a' w',a'.defers=[]->a'.tmps.size=138->bj A (jg A.O {x with pos:=(p+u.size:Nat)} 3 0 f) w'->eR A w0 w'->Q .ret a' w'):
 ∀(l:List U) (i:Nat) (a:Act) (w:World),jS.drop i=l->(l.find? fun u=>Lib.hasPrefix (A.O.extract p A.O.size).data.toList u.data.toList)=res->
  SG A f (.slice (some ⟨g,0,none⟩) jS.length cap) (.int .i64 jS.length) (.int .i64 i) a->bj A x w->eR A w0 w->w.ownsRow base 9 1 (.slice (some ⟨g,0,none⟩) jS.length cap) jS.length (strs jS)->i<=jS.length->
  Code.rounds Tryz.prog ou (Exit.inBlock 1 Q) (l.length+1) a w
 |[],i,a,w,hd,hf,hz,hi,hw,ho,hil=>by
  rw[rounds_succ]
  have yU:i=jS.length:=by
   have:=congrArg List.length hd
   rw[List.length_drop]at this
   simp only[List.length_nil]at this
   omega
  subst yU
  exact acq a hz (fun a' hz'=>hN hf.symm a' w hz' hi hw)
 |u::l,i,a,w,hd,hf,hz,hi,hw,ho,hil=>by
  rw[rounds_succ]
  have bz:i<jS.length:=by
   have:=congrArg List.length hd
   rw[List.length_drop]at this
   simp only[List.length_cons]at this
   omega
  have hu:jS[i]? =some u:=by
   have:=congrArg (fun l=>l[0]?) hd
   simpa using this
  have Mx:jS.drop (i+1)=l:=by
   have:=congrArg List.tail hd
   simpa using this
  obtain⟨⟨v,hv1,hv2⟩,_⟩:=uU ho (j:=i) (by omega)
  have hv:v= .string u:=by
   unfold strs at hv1
   rw[List.getElem?_map,hu]at hv1
   simpa using hv1.symm
  subst hv
  cases hb:Lib.hasPrefix (A.O.extract p A.O.size).data.toList u.data.toList with
  |true=>
   simp only[List.find?_cons,hb]at hf
   have eJ:=TP hb
   rw[aA _ _ _ (Nat.le_refl _)]at eJ
   have:=hx.le
   exact acr hi hx.rows hx.out hv2 bz (by decide) hx.pos hx.le hx.f hx.s0 hx.s1 (by omega) hb a hz (fun a' w' g1 g2 g3 g4=>hY u hf.symm a' w' g1 g2 g3 (eR.trans hw g4))
  |false=>
   simp only[List.find?_cons,hb]at hf
   refine afJ hi hv2 bz (by decide) hx.pos hx.le hb a hz (fun a' hz'=> ?_)
   exact Lr hx hN hY l (i+1) a' w.drew Mx hf hz' (hi.kept dm) (eR.trans hw (hH w)) ho bz
attribute [local irreducible] jS in
theorem Ym{A:bG}{x:LI}{p f:Nat}(hx:Sgn A x p f){w:World}(h:bj A x w){a:Act}(hd:a.defers=[])(hs:a.tmps.size=138)(e0:a.tmps.getD 0 undef= .pointer (some ⟨A.S,0,none⟩))(e2:a.tmps.getD 2 undef= .int .i64 f){Q:Exit->Act->World->Prop}
 (hN:(jS.find? fun u=>Lib.hasPrefix (A.O.extract p A.O.size).data.toList u.data.toList)=none->∀a' w',a'.defers=[]->a'.tmps.size=138->bj A {x with ai:=1} w'->eR A w w'->Q .normal a' w')
 (hY:∀u,(jS.find? fun u=>Lib.hasPrefix (A.O.extract p A.O.size).data.toList u.data.toList)=some u->∀a' w',a'.defers=[]->a'.tmps.size=138->bj A (jg A.O {x with pos:=(p+u.size:Nat)} 3 0 f) w'->eR A w w'->Q .ret a' w'):
 (Code.seq (.seq Yj (.block 1 (.loop ou))) GJ).wp Tryz.prog Q a w:=by
 refine wp_seq (wp_seq (TN hd hs e0 e2 (fun a1 w1 g cap hz ho hB=> ?_)))
 refine wp_block (wp_loop_rounds (jS.length+1) ?_)
 have hi1:bj A x w1:=h.kept (kb h hB)
 have Za:eR A w w1:=qa hB
 refine Lr hx (Q:=Exit.then (Code.wp Tryz.prog GJ Q) Q) (base:=w.heap.size) (w0:=w) (res:=jS.find? fun u=>Lib.hasPrefix (A.O.extract p A.O.size).data.toList u.data.toList) (fun hn a2 w2 HU yU EE=> ?_) (fun u hu a2 w2 g1 g2 g3 g4=>hY u hu a2 w2 g1 g2 g3 g4) jS 0 a1 w1 rfl rfl hz hi1 Za ho (Nat.zero_le _)
 exact Yl yU a2 HU (fun a3 w3 g1 g2 g3 g4=>hN hn a3 w3 g1 g2 g3 (eR.trans EE g4))
theorem Yn{A:bG}{x:LI}{p f:Nat}(hx:Sgn A x p f)(hp:p<A.O.size){w:World}(h:bj A x w){a:Act}(hd:a.defers=[])(hs:a.tmps.size=138)(e0:a.tmps.getD 0 undef= .pointer (some ⟨A.S,0,none⟩))(e2:a.tmps.getD 2 undef= .int .i64 f){Q:Exit->Act->World->Prop}
 (hQ:∀a' w',a'.defers=[]->a'.tmps.size=138->bj A (jg A.O {x with pos:=(p+1:Nat)} 4 0 f) w'->eR A w w'->Q .normal a' w'):(wa Am).wp Tryz.prog Q a w:=by
 obtain⟨hr,hol,hpp,hle,hf,h3,h4⟩:=hx
 obtain⟨vo,vr,qc,_⟩:=h.jI
 have eJ:=h.ok.n1
 have c1:w.cell? ⟨A.S,1,none⟩=some (.int .i64 p):=by rw[←hpp];exact ag qc rfl
 have f1:w.frozen? ⟨A.S,1,none⟩=false:=aV qc
 have Hx:bj A {x with pos:=(p+1:Nat)} (w.setCell ⟨A.S,1,none⟩ (.int .i64 (p+1:Nat))):=eB h (fun _ _=>rfl) rfl rfl
 have Hf:eR A w (w.setCell ⟨A.S,1,none⟩ (.int .i64 (p+1:Nat))):=ig h _ _
 have TO:=pC Hx hr hol 4 0 f (p+1) (.inr (.inr (.inr (.inr rfl)))) rfl (by omega) hp h3 h4
 clear h qc Hx
 have Cs:IntKind.i64.wrap ((p:Int)+1)=((p+1:Nat):Int):=aG (by omega) (by omega)
 obtain⟨y,hy,ha⟩:=df 138 a hd hs
 rw[ha]
 rw[←hy]at e0 e2
 clear ha hy hd hs
 simp only[Am,mf,wa,jh,isT,av,Tryz.f29,Option.getD,Nat.beq,cond,List.range,List.range.loop,List.map]
 rw[e0,e2]
 go_wp2_with ((go_at_call 27;refine TO.mono ?_;rintro en w' ⟨rfl,wb,qn⟩))
 exact hQ _ _ rfl rfl wb (eR.trans Hf qn)
def ov(s:U)(p:Nat):Option U:=jS.find? fun u=>Lib.hasPrefix (s.extract p s.size).data.toList u.data.toList
def tV(O:U)(x:LI)(f:Nat):LI:=match ov O x.pos.toNat with
 |some u=>jg O {x with pos:=(x.pos.toNat+u.size:Nat)} 3 0 f
 |none=>{x with ai:=1}
def tkG(A:bG)(p:LI×List Value×List SV):af (Ex×E (LY A)):=match p.2.2 with
 |[b,.val (.int .i64 f)]=>match gk b with
  |some b=> .aY (Sgn A p.1 p.1.pos.toNat f.toNat∧p.1.pos<A.O.size∧0<=f) (.aj b (.ae (.normal,lG A p.2.1 (jg A.O {p.1 with pos:=(p.1.pos.toNat+1:Nat)} 4 0 f.toNat)))
   (.aj (ov A.O p.1.pos.toNat).isSome (.ae (.ret,lG A p.2.1 (tV A.O p.1 f.toNat))) (.ae (.normal,lG A p.2.1 (tV A.O p.1 f.toNat)))))
  |none=> .fail
 |_=> .fail
theorem JC(A:bG)(hA:A.Ok):ki (LY A) Tryz.f29.ntmps Am (cx (eK [125,2]) (tkG A)):=by
 refine zx (F:=wC [125,2]) ⟨fun p bl a w Q hI hs=> ?_,fun p Q hb _=>hb.elim⟩ (kf [125,2])
 obtain⟨x,bx,vs⟩:=p
 rw[Yk]
 unfold tkG at hs
 split at hs
 ·rename_i b f heq
  obtain rfl:vs=_:=heq
  split at hs
  ·rename_i b' hb
   have look:∀i,Ev.look (wC [125,2] (x,bx,[b,.val (.int .i64 f)]):E (LY A)).tm i=if i=0 then .st 0 else if i=125 then b else if i=2 then .val (.int .i64 f)else .jk:=fun i=>by
    show Ev.look [(0,_),(125,_),(2,_)] i=_
    rw[aF,aF,aF];rfl
   have hv:a.tmps.getD 125 undef= .bool b':=by
    have:=hI.rel 125
    rw[look]at this
    exact fs this (oq hb)
   obtain⟨⟨hx,h1,h2⟩,hs⟩:=hs
   simp only at h1 h2 hx
   have e1:((f.toNat:Nat):Int)=f:=Int.toNat_of_nonneg h2
   have e4:((x.pos.toNat:Nat):Int)=x.pos:=hx.pos.symm
   have r0:=hI.rel 0
   have r2:=hI.rel 2
   rw[look]at r0 r2
   have r2:a.tmps.getD 2 undef= .int .i64 f.toNat:=by rw[e1];exact r2
   cases b' with
   |true=>
    refine wp_cond_true hv ?_
    exact Yn hx (by omega) hI.core.inv hI.defers hI.size r0 r2 (fun a' w' g1 g2 g3 g4=>xl (ex:= .normal) hI g1 g2 g3 g4 (hs.1 rfl))
   |false=>
    refine wp_cond_false hv ?_
    have hq:=hs.2 rfl
    refine Ym hx hI.core.inv hI.defers hI.size r0 r2 (fun hn a' w' g1 g2 g3 g4=> ?_) (fun u hu a' w' g1 g2 g3 g4=> ?_)
    ·have hn:ov A.O x.pos.toNat=none:=hn
     have:=hq.2 (by show(ov A.O x.pos.toNat).isSome=false;rw[hn];rfl)
     simp only[af.aD,tV,hn]at this
     exact xl (ex:= .normal) hI g1 g2 g3 g4 this
    ·have hn:ov A.O x.pos.toNat=some u:=hu
     have:=hq.1 (by show(ov A.O x.pos.toNat).isSome=true;rw[hn];rfl)
     simp only[af.aD,tV,hn]at this
     exact xl (ex:= .ret) hI g1 g2 g3 g4 this
  ·exact hs.elim
 ·exact hs.elim
def uW(A:bG):List (Nat×ej (LY A)):=(39,ZR A)::(41,Ll A)::(42,Lo A)::(43,ZT A)::f_ A
theorem uX(A:bG)(hA:A.Ok):eI A (uW A):=
 ((((fE A hA).cons (TG A hA) rfl rfl (fun h=>by cases h)).cons (JA A hA) rfl rfl (fun h=>by cases h)).cons (Jz A hA) rfl rfl (fun h=>by cases h)).cons (To A hA) rfl rfl (fun h=>by cases h)
abbrev ZU(A:bG):List (Nat×(E (LY A)->af (Ex×E (LY A)))):=[(3000125,cx (eK [125,2]) (tkG A))]
def tkL(A:bG)(bx:List Value)(y:LI)(P:Prop)(F:LS->LS):af (SV×aq (LY A)):= .aY (y=y.dL.bg∧Fit A.O y.dL∧P) (.ae (eC,⟨(F y.dL).bg,bx⟩))
def tkZ(A:bG)(bx:List Value)(p:Nat)(b:Int)(y:LI):af (SV×aq (LY A)):=
 let QU:af (SV×aq (LY A)):= .aY (y=y.dL.bg∧Fit A.O y.dL∧A.rows=true∧(b=34∨b=39)∧y.dL.p<A.O.size∧y.dL.ai=0) (.ae (eC,⟨(bE A.O b y.dL.p A.O.size 0 {y.dL with p:=y.dL.p+1}).bg,bx⟩))
 .aj (b==34) QU (.aj (b==39) QU (.aj (b==96) (tkL A bx y (A.rows=true∧y.dL.p<A.O.size∧y.dL.ai=0) (afI A.O))
  (.aY (ki (LY A) Tryz.f29.ntmps Am (cx (eK [125,2]) (tkG A))) (.aY (Sgn A y (p:Int).toNat (p:Int).toNat∧(p:Int)<A.O.size∧0<=(p:Int))
    (.aj (b==59) (.ae (eC,⟨jg A.O {y with pos:=((p:Int).toNat+1:Nat)} 4 0 (p:Int).toNat,bx⟩))
      (.aj (ov A.O (p:Int).toNat).isSome (.ae (eC,⟨tV A.O y (p:Int).toNat,bx⟩)) (.ae (eC,⟨tV A.O y (p:Int).toNat,bx⟩))))))))
def tkT(A:bG)(bx:List Value)(X:LS)(b:Int)(y:LI):af (SV×aq (LY A)):=
 .aY (0<=(X.p:Int)∧(X.p:Int).toNat<A.O.size) (.aY (0<=(X.p:Int)) (.aj (y.ai != 0) (.ae (eC,⟨y,bx⟩))
  (.aY (-2147483648<=ba A.O X.p∧ba A.O X.p<=2147483647) (.aj (iO (ba A.O X.p)) (tkL A bx y (A.rows=true) (Le A.O))
    (.aY True (.aj (decide (48<=b)&&decide (b<=57)) (tkL A bx y (A.rows=true) (jT A.O))
      (.aj (b==46) (.aj (decide (IntKind.i64.wrap ((X.p:Int)+1)<A.O.size))
        (.aY (0<=IntKind.i64.wrap ((X.p:Int)+1)∧(IntKind.i64.wrap ((X.p:Int)+1)).toNat<A.O.size) (.aY True
          (.aj (decide (48<=((A.O.get! (IntKind.i64.wrap ((X.p:Int)+1)).toNat).toNat:Int))&&decide (((A.O.get! (IntKind.i64.wrap ((X.p:Int)+1)).toNat).toNat:Int)<=57)) (tkL A bx y (A.rows=true) (jT A.O)) (tkZ A bx X.p b y))))
        (tkZ A bx X.p b y)) (tkZ A bx X.p b y))))))))
theorem TQ(A:bG)(X:LS)(bx:List Value):eh (xh A (uW A) Tryz.f29.ntmps (ZU A) 0) Tryz.f29 [.st 0] ⟨X.bg,bx⟩=
 tkT A bx X (A.O.get! X.p).toNat {X.bg with ai:=if ca A.O X.p=true then 1 else X.bg.ai}:=by kernel_rfl
theorem Om(s:U)(x:LS):tV s x.bg x.p=(mb s x).bg:=by
 unfold tV mb
 show(match ov s x.p with|some u=>_|none=>_)=_
 unfold ov
 split
 ·rename_i u hu
  rw[hu]
  exact ke s {x with p:=x.p+u.size} 3 0 x.p
 ·rename_i hu
  rw[hu]
  rfl
theorem Ls(b:UInt8):(decide (48<=(b.toNat:Int))&&decide ((b.toNat:Int)<=57))=qt b:=by
 unfold qt
 have h1:decide (48<=(b.toNat:Int))=decide (48<=b.toNat):=decide_eq_decide.2 (by omega)
 have h2:decide ((b.toNat:Int)<=57)=decide (b.toNat<=57):=decide_eq_decide.2 (by omega)
 rw[h1,h2]
def acs(A:bG):ej (LY A):=⟨29,#[],true,X0 A (fun x=>A.rows=true∧x.p<A.O.size∧x.ai=0) (bR A.O)⟩
theorem GK(s:U)(p:Nat): -2147483648<=ba s p∧ba s p<=2147483647:=by
 unfold ba
 split
 ·exact rJ s p
 ·omega
theorem Oo(A:bG)(hA:A.Ok):(acs A).Ok:=by
 refine rH hA Tryz.func29 (fun args w=>by kernel_rfl) (iD A (uX A hA) Tryz.f29.ntmps (ZU A) 0) (fun args c Q h=> ?_)
 obtain⟨X,bx,rfl,rfl,hf,⟨hr,hp,bn⟩,hq⟩:=uT h
 have hs:=hA.n1
 obtain⟨l1,l2,l3,l4,l5,l6,l7⟩:=hf.len hs
 rw[TQ]
 refine⟨⟨l4,hp⟩,l4,fun h1=> ?_,fun h1=> ?_⟩
 ·have hb:ca A.O X.p=true:=by
   cases hb:ca A.O X.p with
   |true=>rfl
   |false=>
    have h1:((if ca A.O X.p=true then 1 else(X.ai:Int)) != 0)=true:=h1
    rw[hb,bn]at h1
    exact absurd h1 (by decide)
  unfold bR at hq
  rw[if_pos hb]at hq
  show Q (eC,⟨{X.bg with ai:=if ca A.O X.p=true then 1 else X.bg.ai},bx⟩)
  rw[if_pos hb]
  exact hq
 ·have hb:¬ca A.O X.p=true:=fun hb=>by
   have h1:((if ca A.O X.p=true then 1 else(X.ai:Int)) != 0)=false:=h1
   rw[if_pos hb]at h1
   exact absurd h1 (by decide)
  unfold bR at hq
  rw[if_neg hb]at hq
  have ey:({X.bg with ai:=if ca A.O X.p=true then 1 else X.bg.ai}:LI)=X.bg:=by rw[if_neg hb]
  rw[ey]
  have w1:IntKind.i64.wrap ((X.p:Int)+1)=((X.p+1:Nat):Int):=aG (by omega) (by omega)
  rw[w1,Ls,Ls]
  refine⟨GK _ _,fun h2=> ?_,fun h2=> ?_⟩
  ·rw[if_pos h2]at hq
   exact⟨⟨rfl,hf,hr⟩,hq⟩
  ·have h2:¬iO (ba A.O X.p)=true:=by simp[h2]
   rw[if_neg h2]at hq
   have num:(qt (A.O.get! X.p)=true∨((A.O.get! X.p).toNat=46∧X.p+1<A.O.size∧qt (A.O.get! (X.p+1))=true))->(tkL A bx X.bg (A.rows=true) (jT A.O)).aD Q:=fun hn=>by
    rw[if_pos hn]at hq
    exact⟨⟨rfl,hf,hr⟩,hq⟩
   have rest:¬(qt (A.O.get! X.p)=true∨((A.O.get! X.p).toNat=46∧X.p+1<A.O.size∧qt (A.O.get! (X.p+1))=true))->(tkZ A bx X.p (A.O.get! X.p).toNat X.bg).aD Q:=fun hn=>by
    rw[if_neg hn]at hq
    refine⟨fun q1=>⟨⟨rfl,hf,hr,.inl (by simpa using q1),hp,bn⟩,?_⟩,fun q1=>⟨fun q2=>⟨⟨rfl,hf,hr,.inr (by simpa using q2),hp,bn⟩,?_⟩,fun q2=>⟨fun q3=>⟨⟨rfl,hf,hr,hp,bn⟩,?_⟩,fun q3=>⟨JC A hA,⟨⟨hr,l1,rfl,hf.le,Nat.le_refl _,l2,l3⟩,by omega,l4⟩,fun q4=> ?_,fun q4=> ?_⟩⟩⟩⟩
    ·have g:(A.O.get! X.p).toNat=34:=nn q1
     rw[if_pos (.inl g)]at hq
     exact hq
    ·have g:(A.O.get! X.p).toNat=39:=nn q2
     rw[if_pos (.inr g)]at hq
     exact hq
    ·have g1:¬(A.O.get! X.p).toNat=34:=js q1
     have g2:¬(A.O.get! X.p).toNat=39:=js q2
     have g:(A.O.get! X.p).toNat=96:=nn q3
     rw[if_neg (fun h=>h.elim g1 g2),if_pos g]at hq
     exact hq
    ·have g1:¬(A.O.get! X.p).toNat=34:=js q1
     have g2:¬(A.O.get! X.p).toNat=39:=js q2
     have g3:¬(A.O.get! X.p).toNat=96:=js q3
     have g:(A.O.get! X.p).toNat=59:=nn q4
     rw[if_neg (fun h=>h.elim g1 g2),if_neg g3,if_pos g]at hq
     have e:=ke A.O {X with p:=X.p+1} 4 0 X.p
     show Q (eC,⟨jg A.O (LS.bg {X with p:=X.p+1}) 4 0 X.p,bx⟩)
     rw[e]
     exact hq
    ·have g1:¬(A.O.get! X.p).toNat=34:=js q1
     have g2:¬(A.O.get! X.p).toNat=39:=js q2
     have g3:¬(A.O.get! X.p).toNat=96:=js q3
     have g4:¬(A.O.get! X.p).toNat=59:=js q4
     rw[if_neg (fun h=>h.elim g1 g2),if_neg g3,if_neg g4]at hq
     have e:Q (eC,⟨tV A.O X.bg X.p,bx⟩):=by rw[Om];exact hq
     exact⟨fun _=>e,fun _=>e⟩
   refine⟨trivial,fun h3=>num (.inl h3),fun h3=>⟨fun h4=>⟨fun h5=>⟨⟨by omega,?_⟩,trivial,fun h6=>num (.inr ⟨nn h4,?_,h6⟩),fun h6=>rest ?_⟩,fun h5=>rest ?_⟩,fun h4=>rest ?_⟩⟩
   ·have:((X.p+1:Nat):Int)<A.O.size:=of_decide_eq_true h5
    show X.p+1<_
    omega
   ·have:((X.p+1:Nat):Int)<A.O.size:=of_decide_eq_true h5
    omega
   ·rintro(h|⟨_,_,h⟩)
    ·rw[h]at h3;cases h3
    ·have h6:qt (A.O.get! (X.p+1))=false:=h6
     rw[h]at h6;cases h6
   ·have h5:¬((X.p+1:Nat):Int)<A.O.size:=of_decide_eq_false h5
    rintro(h|⟨_,h,_⟩)
    ·rw[h]at h3;cases h3
    ·omega
   ·have g:¬(A.O.get! X.p).toNat=46:=js h4
    rintro(h|⟨h,_,_⟩)
    ·rw[h]at h3;cases h3
    ·exact g h
abbrev ji:Code:=av Tryz.f28
abbrev xm:Code:=a_ (aX ji 1)
def tW(A:bG)(bx:List Value)(f l c:Int)(x:LI):E (LY A):=⟨⟨x,bx⟩,[(0,.st 0),(3,.val (.int .i64 f)),(4,.val (.int .i64 l)),(5,.val (.int .i64 c))]⟩
def aix(A:bG)(bx:List Value)(f l c:Int)(x:LI):af (Ex×E (LY A)):=
 .aj (x.ai==0)
  (.aj (decide (x.pos<(A.O.size:Int)))
    (.aY (0<=x.pos∧x.pos.toNat<A.O.size)
      (.aj (((A.O.get! x.pos.toNat).toNat:Int) != 10)
        (.aY (0<=x.pos)
          (.ae (.normal,tW A bx f l c {x with pos:=IntKind.i64.wrap (x.pos+(aN A.O x.pos.toNat:Int)),ai:=if ca A.O x.pos.toNat=true then 1 else x.ai})))
        (.ae (.exit 1,tW A bx f l c x))))
    (.ae (.exit 1,tW A bx f l c x)))
  (.ae (.exit 1,tW A bx f l c x))
theorem acu(A:bG)(bx:List Value)(f l c:Int)(x:LI):(az (xh A (uW A) Tryz.f28.ntmps [] 0) xm (tW A bx f l c x)).bind (fun xe=> .ae (xe.1,cU [0,3,4,5] xe.2))=aix A bx f l c x:=by kernel_rfl
theorem acv(A:bG)(hA:A.Ok)(bx:List Value)(f l c:Int):At (LY A) Tryz.f28.ntmps (.block 1 (.loop xm)) (fun p:LS×Nat=>tW A bx f l c p.1.bg)
 (fun p=> .aY (Fit A.O p.1∧A.O.size<=p.1.p+p.2) (.ae (.normal,tW A bx f l c (dh A.O p.2 p.1).bg))):=by
 refine At.det rI (fun p:LS×Nat=>Fit A.O p.1∧A.O.size<=p.1.p+p.2) (fun p=>p.2) (fun p=>(.normal,tW A bx f l c (dh A.O p.2 p.1).bg))
  (At.same (C:=xh A (uW A) Tryz.f28.ntmps [] 0) (qI A hA) (iD A (uX A hA) _ [] 0) (fun _=>[0,3,4,5]) (fun p=>acu A bx f l c p.1.bg)) ?_
 rintro⟨x,n⟩ ⟨hf,hn⟩
 have hs:=hA.n1
 simp only at hf hn
 have hx:=hf.le
 have stop:¬(x.ai=0∧x.p<A.O.size∧(A.O.get! x.p).toNat≠10)->iq 1 ((.exit 1,tW A bx f l c x.bg):Ex×E (LY A))=(.normal,tW A bx f l c (dh A.O n x).bg):=fun h=>by
  have e:dh A.O n x=x:=by
   cases n with
   |zero=>rfl
   |succ n=>unfold dh;rw[if_neg h]
  rw[e];rfl
 refine⟨fun h1=>⟨fun h2=> ?_,fun h2=> .inr ⟨by simp,stop (fun h=> ?_)⟩⟩,fun h1=> .inr ⟨by simp,stop (fun h=> ?_)⟩⟩
 ·have e1:x.ai=0:=by
   have h1:((x.ai:Int)==0)=true:=h1
   have:(x.ai:Int)=0:=by simpa using h1
   omega
  have hp:x.p<A.O.size:=by
   have:(x.p:Int)<A.O.size:=of_decide_eq_true h2
   omega
  obtain⟨w1,w2,w3⟩:=lF hp
  refine⟨⟨Int.natCast_nonneg _,hp⟩,fun h3=>⟨Int.natCast_nonneg _,.inl ⟨rfl,({cB A.O x.p x with p:=x.p+aN A.O x.p},n-1),?_,?_,⟨?_,?_⟩,?_⟩⟩,fun h3=> .inr ⟨by simp,stop (fun h=>h.2.2 ?_)⟩⟩
  ·have ew:IntKind.i64.wrap ((x.p:Int)+(aN A.O x.p:Nat))=((x.p+aN A.O x.p:Nat):Int):=aG (by omega) (by omega)
   show tW A bx f l c {x.bg with pos:=IntKind.i64.wrap ((x.p:Int)+(aN A.O x.p:Nat)),ai:=if ca A.O x.p=true then 1 else x.bg.ai}=_
   rw[ew]
   unfold cB
   split<;>rfl
  ·show n-1<n;omega
  ·exact(hf.char x.p).at (e:=x.p+aN A.O x.p) (by rw[(Du _ _ _).1];omega) w3 _
  ·show _<=x.p+aN A.O x.p+(n-1);omega
  ·cases n with
   |zero=>omega
   |succ n=>
    have h3:¬(A.O.get! x.p).toNat=10:=by
     have h3:(((A.O.get! x.p).toNat:Int) != 10)=true:=h3
     have:¬((A.O.get! x.p).toNat:Int)=10:=by simpa using h3
     omega
    have e:dh A.O (n+1) x=dh A.O n {cB A.O x.p x with p:=x.p+aN A.O x.p}:=by
     rw[dh,if_pos ⟨e1,hp,h3⟩,]
    rw[e]
    rfl
  ·have h3:(((A.O.get! x.p).toNat:Int) != 10)=false:=h3
   have:((A.O.get! x.p).toNat:Int)=10:=by simpa using h3
   omega
 ·have:¬(x.p:Int)<A.O.size:=of_decide_eq_false h2
  have:=h.2.1
  omega
 ·have h1:((x.ai:Int)==0)=false:=h1
  have h3:¬(x.ai:Int)=0:=by simpa using h1
  exact h3 (by rw[h.1];rfl)
def Lt(A:bG)(p:LI×List Value×List SV):af (Ex×E (LY A)):=match p.2.2 with
 |[.val (.int .i64 f),.val (.int .i64 l),.val (.int .i64 c)]=> .aY (p.1=p.1.dL.bg∧Fit A.O p.1.dL) (.ae (.normal,tW A p.2.1 f l c (dh A.O A.O.size p.1.dL).bg))
 |_=> .fail
theorem Yo(A:bG)(hA:A.Ok):cy (LY A) Tryz.f28.ntmps 1 (.loop xm) (cx (eK [3,4,5]) (Lt A)):=by
 refine eW (F:=wC [3,4,5]) ⟨fun p bl a w Q hI hs=> ?_,fun p Q hb _=>hb.elim⟩ (kf [3,4,5])
 obtain⟨x,bx,vs⟩:=p
 unfold Lt at hs
 split at hs
 ·rename_i f l c heq
  obtain rfl:vs=_:=heq
  obtain⟨⟨h1,h2⟩,hq⟩:=hs
  simp only at h1 h2
  have gy:cL (LY A) Tryz.f28.ntmps (tW A bx f l c (LI.dL x).bg) bl a w:=by
   have e:(wC [3,4,5] (x,bx,[.val (.int .i64 f),.val (.int .i64 l),.val (.int .i64 c)]):E (LY A))=tW A bx f l c (LI.dL x).bg:=by
    rw[←h1];rfl
   rw[←e];exact hI
  exact(acv A hA bx f l c).wp (LI.dL x,A.O.size) bl a w Q gy ⟨⟨h2,by show _<=LS.p _+_;omega⟩,hq⟩
 ·exact hs.elim
theorem tX{A:bG}{s:ej (LY A)}(hs:s.Ok)(hc:s.kQ=#[]){args:List SV}{bS:List Value}{st aO:LI}{w:World}(h:bj A st w)(hr:oM (LY A) [] w args bS)(hg:(s.g args ⟨st,[]⟩).aD fun p=>p=(eC,⟨aO,[]⟩)):
 Calls Tryz.prog s.f bS.toArray w fun e w'=>e= .returned (.tuple #[])∧bj A aO w'∧eR A w w':=by
 have:=hs.ok args ⟨st,[]⟩ [] w bS _ hr ⟨h,rfl,List.nodup_nil,fun i b u hb=>by simp at hb,fun b hb=>by simp at hb⟩ hg
 rw[hc,Array.append_empty]at this
 refine this.mono ?_
 rintro e w' (⟨sv,c',v,dw,hq,rfl,hrel,hinv,bN,_⟩|⟨_,p,_,hb⟩)
 ·injection hq with h1 h2
  subst h1 h2
  have hrel:v= .tuple #[]:=hrel
  exact⟨by rw[hrel],hinv.inv,bN.fr⟩
 ·exact hb.elim
theorem ow{A:bG}(hA:A.Ok){X:LS}(hf:Fit A.O X){e:Nat}(he:e<=A.O.size){w:World}(h:bj A X.bg w):
 Calls Tryz.prog 37 #[.pointer (some ⟨A.S,0,none⟩),.int .i64 e] w fun en w'=>en= .returned (.tuple #[])∧bj A (bV A.O e A.O.size X).bg w'∧eR A w w':=
 tX (Ti A hA) rfl (args:=[.st 0,.val (.int .i64 e)]) (bS:=[_,_]) h (.cons rfl (.cons rfl .nil)) ⟨⟨rfl,hf,Int.natCast_nonneg _,by omega⟩,rfl⟩
theorem zy{A:bG}(hA:A.Ok)(hr:A.rows=true){X:LS}(hf:Fit A.O X){w:World}(h:bj A X.bg w):
 Calls Tryz.prog 26 #[.pointer (some ⟨A.S,0,none⟩)] w fun en w'=>en= .returned (.tuple #[])∧bj A (cY X).bg w'∧eR A w w':=
 tX (GB A hA) rfl (args:=[.st 0]) (bS:=[_]) h (.cons rfl .nil) ⟨⟨hr,(hf.len hA.n1).1⟩,rfl⟩
abbrev GL:Code:=jh ji 86
abbrev GM:Code:=wa GL
theorem TR{A:bG}{x:LI}{w w2:World}{vo vr:Value}(h:bj A x w)(hB:Below w.heap.size w w2){S2:Nat}(hS:w.heap.size<=S2)(hb:w2.heap[S2]? =some (.cells (de A.O x vo vr) 58 (0,0))):
 bj ⟨A.w0,A.ea,S2,0,A.O,false⟩ x w2:=
 ⟨⟨h.ok.jU,h.ok.n1,Nat.le_trans h.below.size hS,fun hh=>by cases hh⟩,h.below.trans (fJ hB h.below.size),⟨vo,vr,hb,fun hh=>by cases hh⟩,fun hh=>by cases hh⟩
theorem Yp{A:bG}{S2 b:Nat}{w w2:World}(h0:A.w0.heap.size<=w.heap.size)(hS:w.heap.size<=S2){w1:World}(hf:eR ⟨A.w0,A.ea,S2,b,A.O,false⟩ w1 w2)(hB:Below w.heap.size w w1)(hw:∀k,k<A.w0.heap.size->w2.heap[k]? =w1.heap[k]?):Below w.heap.size w w2:=by
 refine hB.trans ⟨hf.os,hf.tape,hf.output,hf.size,fun k hk=> ?_⟩
 by_cases G7:k<A.w0.heap.size
 ·exact hw k G7
 ·refine hf.bm k (Nat.lt_of_lt_of_le hk hB.size) ?_ (by simp)
  rintro(h|h|⟨h,_⟩)
  ·exact G7 h
  ·have h:k=S2:=h
   omega
  ·cases h
theorem Oq{A:bG}(hA:A.Ok){X:LS}{w:World}(h:bj A X.bg w){po pr:Option Addr}{co cr:Nat}(qc:w.heap[A.S]? =some (.cells (de A.O X.bg (.slice po X.out.length co) (.slice pr X.rem.length cr)) 58 (0,0)))(hf:Fit A.O X){k:Nat}(Uz:X.p+k+4<=A.O.size){Y:LS}(hY:bV A.O (X.p+k+4) A.O.size X=Y):
 Calls Tryz.prog 37 #[.pointer (some ⟨w.heap.size,0,none⟩),.int .i64 ((X.p:Int)+k+4)] (w.alloc (.cells #[.string A.O,.int .i64 X.p,.int .i64 X.line,.int .i64 X.st,.bool X.ends,.int .i64 X.stop,.int .i64 X.fst,.int .i64 X.ai,.slice po X.out.length co,.slice pr X.rem.length cr] 58)).drew
  fun en w2=>en= .returned (.tuple #[])∧bj A X.bg w2∧eR A w w2∧w2.cell? ⟨A.S,0,none⟩=some (.string A.O)∧w2.cell? ⟨A.S,1,none⟩=some (.int .i64 X.p)∧w2.cell? ⟨w.heap.size,7,none⟩=some (.int .i64 Y.ai):=by
 have oA:Below w.heap.size w (w.alloc (.cells #[.string A.O,.int .i64 X.p,.int .i64 X.line,.int .i64 X.st,.bool X.ends,.int .i64 X.stop,.int .i64 X.fst,.int .i64 X.ai,.slice po X.out.length co,.slice pr X.rem.length cr] 58)).drew:=(Below.alloc (Below.refl _ _) (Nat.le_refl _) _).drew
 have hc:=TR h oA (Nat.le_refl _) (vo:= .slice po X.out.length co) (vr:= .slice pr X.rem.length cr) (heap_alloc_new w _)
 have:=ow hc.ok hf (e:=X.p+k+4) Uz hc
 refine this.mono ?_
 rintro e w2 ⟨rfl,hi,qn⟩
 replace hi:bj ⟨A.w0,A.ea,w.heap.size,0,A.O,false⟩ (bV A.O (X.p+k+4) A.O.size X).bg w2:=hi
 rw[hY]at hi
 have nF:Below w.heap.size w w2:=Yp h.below.size (Nat.le_refl _) qn oA (fun k' hk=>(hi.below.block k' hk).trans (hc.below.block k' hk).symm)
 have yU:bj A X.bg w2:=h.kept (kb h nF)
 obtain⟨vo2,vr2,fm,_⟩:=yU.jI
 obtain⟨vo3,vr3,hb3,_⟩:=hi.jI
 exact⟨rfl,yU,qa nF,ag fm rfl,ag fm rfl,ag hb3 rfl⟩
theorem Yq{A:bG}(hA:A.Ok)(hr:A.rows=true){X:LS}(hf:Fit A.O X){w:World}(h:bj A X.bg w){f l c:Int}{k:Nat}(hk:gM (A.O.extract (X.p+2) A.O.size) ⟨#[42,47]⟩=k)(Uz:X.p+k+4<=A.O.size){a:Act}(hd:a.defers=[])(hs:a.tmps.size=175)
 (e0:a.tmps.getD 0 undef= .pointer (some ⟨A.S,0,none⟩))(e3:a.tmps.getD 3 undef= .int .i64 f)(e4:a.tmps.getD 4 undef= .int .i64 l)(e5:a.tmps.getD 5 undef= .int .i64 c){Y:LS}(hY:bV A.O (X.p+k+4) A.O.size X=Y)(aiy:Y.ai=0∨Y.ai=1){m:Nat}(hm:m=X.p+2+k){ib:Int}(hib:Lib.indexByte (A.O.extract X.p m).data.toList 10=ib){Q:Exit->Act->World->Prop}
 (hQ:∀a' w',a'.defers=[]->a'.tmps.size=175->a'.tmps.getD 0 undef= .pointer (some ⟨A.S,0,none⟩)->a'.tmps.getD 3 undef= .int .i64 f->a'.tmps.getD 4 undef= .int .i64 l->a'.tmps.getD 5 undef= .int .i64 c->
   bj A (bV A.O (X.p+k+4) A.O.size (if Y.ai=0∧0<=ib then cY X else X)).bg w'->eR A w w'->Q .normal a' w'):GM.wp Tryz.prog Q a w:=by
 obtain⟨vo,vr,qc,eO⟩:=h.jI
 obtain⟨po,co,rfl⟩:=jE (eO hr).1
 obtain⟨pr,cr,rfl⟩:=jE (eO hr).2
 clear eO
 have eJ:=h.ok.n1
 have c0:w.cell? ⟨A.S,0,none⟩=some (.string A.O):=ag qc rfl
 have c1:w.cell? ⟨A.S,1,none⟩=some (.int .i64 X.p):=ag qc rfl
 have c2:w.cell? ⟨A.S,2,none⟩=some (.int .i64 X.line):=ag qc rfl
 have c3:w.cell? ⟨A.S,3,none⟩=some (.int .i64 X.st):=ag qc rfl
 have c4:w.cell? ⟨A.S,4,none⟩=some (.bool X.ends):=ag qc rfl
 have c5:w.cell? ⟨A.S,5,none⟩=some (.int .i64 X.stop):=ag qc rfl
 have c6:w.cell? ⟨A.S,6,none⟩=some (.int .i64 X.fst):=ag qc rfl
 have c7:w.cell? ⟨A.S,7,none⟩=some (.int .i64 X.ai):=ag qc rfl
 have c8:w.cell? ⟨A.S,8,none⟩=some (.slice po X.out.length co):=ag qc rfl
 have c9:w.cell? ⟨A.S,9,none⟩=some (.slice pr X.rem.length cr):=ag qc rfl
 have hIx:=fun w=>oh w (A.O.extract (X.p+2) A.O.size) ⟨#[42,47]⟩ (Nat.le_trans (hU eJ _ _) (by omega)) (by decide)
 rw[hk]at hIx
 have k1:IntKind.i64.wrap ((X.p:Int)+2)=((X.p+2:Nat):Int):=aG (by omega) (by omega)
 have k2:¬(k:Int)<0:=by omega
 have k5:IntKind.i64.wrap ((X.p:Int)+k)=((X.p+k:Nat):Int):=aG (by omega) (by omega)
 have k6:IntKind.i64.wrap (((X.p+k:Nat):Int)+4)=((X.p+k+4:Nat):Int):=aG (by omega) (by omega)
 have k3:((X.p:Nat):Int)+2<=(A.O.size:Int):=by omega
 have k4:0<=((X.p:Nat):Int)+2:=by omega
 obtain⟨y,hy,ha⟩:=df 175 a hd hs
 rw[ha]
 rw[←hy]at e0 e3 e4 e5
 clear ha hy hd hs
 simp only[GM,GL,ji,wa,jh,isT,av,Tryz.f28,Option.getD,Nat.beq,cond,List.range,List.range.loop,List.map]
 rw[e0,e3,e4,e5]
 have hov:=Oq hA h qc hf Uz hY
 have hIB:=fun w=>cX w (A.O.extract X.p m) 10
 rw[show(10:Int).toNat.toUInt8=10 from rfl,hib]at hIB
 have k7:IntKind.i64.wrap ((X.p:Int)+2)=((X.p+2:Nat):Int):=aG (by omega) (by omega)
 have k8:IntKind.i64.wrap (((X.p+2:Nat):Int)+k)=(m:Int):=by rw[hm];exact aG (by omega) (by omega)
 have KQ:IntKind.i64.wrap ((X.p:Int)+2+(k:Int))=(m:Int):=by rw[hm,aG (by omega) (by omega)];omega
 have k9:(0:Int)<=(X.p:Int):=by omega
 have k10:(X.p:Int)<=(m:Int):=by omega
 have W2:(m:Int)<=(A.O.size:Int):=by omega
 have k12:X.p<=m:=by omega
 have k13:m<=A.O.size:=by omega
 clear hm
 have H:=Lib.hid h
 clear h qc
 go_wp2_with fail
 go_region_held3 (fun w'=>w'.cell? ⟨A.S,0,none⟩=some (.string A.O)∧w'.cell? ⟨A.S,1,none⟩=some (.int .i64 X.p)) (go_keep) ((go_at_call 31;refine(hIx _).mono ?_;rintro en w' ⟨rfl,rfl⟩))
 go_split_ands
 go_wp2_with ((go_at_call 37;refine hov.mono ?_;rintro en w2 ⟨rfl,yU,EE,d0,d1,d7⟩))
 rcases aiy with hY0|hY0
 ·have hY1:(Y.ai:Int)=0:=by omega
  rw[hY1]at d7
  by_cases FH:0<=ib
  ·have e1:(if Y.ai=0∧0<=ib then cY X else X)=cY X:=if_pos ⟨hY0,FH⟩
   rw[e1]at hQ
   clear e1
   go_region_held3 (fun w'=>w'.cell? ⟨A.S,0,none⟩=some (.string A.O)∧w'.cell? ⟨A.S,1,none⟩=some (.int .i64 X.p)∧w'.cell? ⟨w.heap.size,7,none⟩=some (.int .i64 0)) (go_keep) ((go_at_call 22;refine(hIB _).mono ?_;rintro en w' ⟨rfl,rfl⟩))
   go_split_ands
   go_wp2_with (first
    |(go_at_call 26;refine(zy hA hr hf (yU.kept dm)).mono ?_;rintro en w3 ⟨rfl,ZV,hf3⟩)
    |(go_at_call 37;refine(ow hA hf.lO Uz ZV).mono ?_;rintro en w4 ⟨rfl,hi4,XV⟩))
   exact hQ _ _ rfl rfl rfl rfl rfl rfl hi4 (eR.trans (eR.trans (eR.trans EE (hH _)) hf3) XV)
  ·have e1:(if Y.ai=0∧0<=ib then cY X else X)=X:=if_neg (fun h=>FH h.2)
   rw[e1]at hQ
   clear e1
   go_region_held3 (fun w'=>w'.cell? ⟨A.S,0,none⟩=some (.string A.O)∧w'.cell? ⟨A.S,1,none⟩=some (.int .i64 X.p)∧w'.cell? ⟨w.heap.size,7,none⟩=some (.int .i64 0)) (go_keep) ((go_at_call 22;refine(hIB _).mono ?_;rintro en w' ⟨rfl,rfl⟩))
   go_split_ands
   go_wp2_with ((go_at_call 37;refine(ow hA hf Uz (yU.kept dm)).mono ?_;rintro en w4 ⟨rfl,hi4,XV⟩))
   exact hQ _ _ rfl rfl rfl rfl rfl rfl hi4 (eR.trans (eR.trans EE (hH _)) XV)
 ·have hY1:(Y.ai:Int)=1:=by omega
  rw[hY1]at d7
  have e1:(if Y.ai=0∧0<=ib then cY X else X)=X:=if_neg (fun h=>by omega)
  rw[e1]at hQ
  clear e1
  rename_i hk
  go_region
  refine hk _ _ ?_
  go_wp2_with ((go_at_call 37;refine(ow hA hf Uz (yU.kept dm)).mono ?_;rintro en w4 ⟨rfl,hi4,XV⟩))
  exact hQ _ _ rfl rfl rfl rfl rfl rfl hi4 (eR.trans (eR.trans EE (hH _)) XV)
theorem Ot:(Tryz.prog.info? 53).map (fun i=>(i.zero,i.size,i.bytes))=some (some (.agg #[.string ⟨#[]⟩,.int .i64 0,.int .i64 0]),3,32):=by kernel_rfl
theorem JD:Tryz.prog.underlying 23=some (.slice 53):=by kernel_rfl
theorem acw{w:World}{k base n:Nat}{v:Value}{xs:List Value}{t:Dh}(bo:w.ownsRow base 53 3 v n xs)(cN:base<=w.heap.size)(hn:n<=8589934592)
 {ops:Array Oper}{o:Oper}{a:Act}{K:Act->World->Prop}{Q:Exit->Act->World->Prop}{E:Prop}(DR:o.guard=none)(s x:Operand)
 (ho:o.op= .call {callee:= .builtin .append,args:=#[s,x],argTypes:=#[23,23]})(hs:a.eval s=v)(hx:a.eval x= .slice (some ⟨w.heap.size,0,none⟩) 1 1)
 (h:∀v' w',w'.ownsRow base 53 3 v' (n+1) (xs++di t)->((w.drewN k).alloc (.cells (di t).toArray 53)).grownBy w' v.ownBlock->(∀g,v.ownBlock=some g->ij w' g=some 53)->K (a.put o.dst v') w'):
 if Region.wanted o (yielded ops a.tmps)=true then Oper.wp Tryz.prog o a ((w.drewN k).alloc (.cells (di t).toArray 53)) K Q else E:=
 La Ot JD rfl (by omega) (by omega) (by omega) bo cN hn rfl (by simp[di,Value.oneCell']) DR s x ho hs hx h
theorem TS{A:bG}{x:LI}{w w1:World}{k:Nat}{vo vr v':Value}{t:Dh}{o:Obj}(h:bj A x w)(hr:A.rows=true)(hb:w.heap[A.S]? =some (.cells (de A.O x vo vr) 58 (0,0)))
 (o1:w.ownsRow A.base 29 5 vo x.out.length (flat cw x.out))(o2:w.ownsRow A.base 53 3 vr x.rem.length (flat di x.rem))
 (bo:w1.ownsRow A.base 53 3 v' (x.rem.length+1) (flat di x.rem++di t))(fR:((w.drewN k).alloc o).grownBy w1 vr.ownBlock)(xT:∀g,vr.ownBlock=some g->ij w1 g=some 53):
 w1.heap[A.S]? =w.heap[A.S]? ∧w1.cell? ⟨A.S,9,none⟩=some vr∧w1.frozen? ⟨A.S,9,none⟩=false∧bj A {x with rem:=x.rem++[t]} (w1.setCell ⟨A.S,9,none⟩ v')∧eR A w (w1.setCell ⟨A.S,9,none⟩ v'):=by
 have hS:=h.ok.hi hr
 have bz:=h.lt
 have dH:some A.S≠vr.ownBlock:=fun e=>by
  have:=(dt o2 e.symm).1
  omega
 have Cj:A.S<((w.drewN k).alloc o).heap.size:=by rw[World.size_alloc];exact Nat.lt_succ_of_lt bz
 have Gz:w1.heap[A.S]? =w.heap[A.S]? :=(fR.block _ Cj dH).trans (Below.heap_alloc _ _ _ bz)
 have eJ:((w.drewN k).alloc o).heap.size<=w1.heap.size:=fR.size
 have cz:=Gz.trans hb
 have Za:=Lb (.inr rfl) hr o2 fR xT
 have EE:eR A w1 (w1.setCell ⟨A.S,9,none⟩ v'):=⟨rfl,rfl,rfl,by simp,fun k hk=>eU _ _ _ _,fun k hk ht _=>Below.heap_setCell _ _ _ _ (fun e=>ht (.inr (.inl e)))⟩
 refine⟨Gz,ag cz rfl,aV cz,⟨h.ok,?_,⟨vo,v',by rw[aZ _ cz];rfl,fun _=>⟨?_,?_⟩⟩,fun _=> ?_⟩,eR.trans Za EE⟩
 ·exact Below.setCell (Below.grown (((show Below A.w0.heap.size A.w0 (w.drewN k) from⟨h.below.os,h.below.tape,h.below.output,h.below.size,h.below.block⟩)).alloc h.below.size o) fR (by rw[World.size_alloc];exact Nat.le_succ_of_le h.below.size) (fun k' hk=>by
   have:=(dt o2 hk).1
   have:=h.ok.lo
   omega)) h.ok.lo _
 ·refine ownsRow_setCell_below ?_ hS _
  refine ng o1 (fun k' hk=> ?_)
  obtain⟨g1,g2,g3⟩:=dt o1 hk
  refine(fR.block _ (by rw[World.size_alloc];exact Nat.lt_succ_of_lt g3) (fun e=> ?_)).trans (Below.heap_alloc _ _ _ g3)
  have:=(dt o2 e.symm).2.1
  rw[g2]at this
  exact absurd this (by decide)
 ·have e1:(x.rem++[t]).length=x.rem.length+1:=by simp
  have e2:flat di (x.rem++[t])=flat di x.rem++di t:=by rw[iJ];simp[flat]
  rw[e1,e2]
  exact ownsRow_setCell_below bo hS _
 ·have:=h.size hr
  rw[World.size_alloc]at eJ
  have e:(w.drewN k).heap.size=w.heap.size:=rfl
  simp
  omega
theorem TT{A:bG}{x:LI}{w:World}(h:bj A x w)(hr:A.rows=true)(hn:x.rem.length<=8589934592){f p:Nat}{l c:Int}(hp:x.pos=p)(h1:f<=p)(h2:p<=A.O.size)
 {a:Act}(hd:a.defers=[])(hs:a.tmps.size=175)(e0:a.tmps.getD 0 undef= .pointer (some ⟨A.S,0,none⟩))(e3:a.tmps.getD 3 undef= .int .i64 f)(e4:a.tmps.getD 4 undef= .int .i64 l)(e5:a.tmps.getD 5 undef= .int .i64 c){Q:Exit->Act->World->Prop}
 (hQ:∀a' w',a'.defers=[]->a'.tmps.size=175->a'.tmps.getD 2 undef= .bool true->bj A {x with rem:=x.rem++[⟨A.O.extract f p,l,c⟩]} w'->eR A w w'->Q .ret a' w'):(ah 3 ji).wp Tryz.prog Q a w:=by
 have eJ:=h.ok.n1
 obtain⟨vo,vr,hb,eO⟩:=h.jI
 obtain⟨o1,o2⟩:=eO hr
 have cN:=h.size hr
 have c0:w.cell? ⟨A.S,0,none⟩=some (.string A.O):=ag hb rfl
 have c1:w.cell? ⟨A.S,1,none⟩=some (.int .i64 p):=by rw[←hp];exact ag hb rfl
 have c9:w.cell? ⟨A.S,9,none⟩=some vr:=ag hb rfl
 have H:=fun k v' t o w1=>TS (k:=k) (v':=v') (t:=t) (w1:=w1) (o:=o) h hr hb o1 o2
 have a9:∀o,(w.alloc o).cell? ⟨A.S,9,none⟩=some vr:=fun o=>by
  rw[World.cell?_of_block (w:=w) (a:=⟨A.S,9,none⟩) (Below.heap_alloc _ _ _ h.lt)];exact c9
 have k9:(0:Int)<=(f:Int):=by omega
 have k10:(f:Int)<=(p:Int):=by omega
 have W2:(p:Int)<=(A.O.size:Int):=by omega
 obtain⟨y,hy,ha⟩:=df 175 a hd hs
 rw[ha]
 rw[←hy]at e0 e3 e4 e5
 clear ha hy hd hs h hb eO
 simp only[ji,av,Tryz.f28,Option.getD,ah,cO,Option.map,List.range,List.range.loop,List.map]
 rw[e0,e3,e4,e5]
 go_wp2_with fail
 rename_i hk
 refine wp_region_noPanic ?_
 go_region_law (refine acw (k:=1) (t:=⟨A.O.extract f p,l,c⟩) o2 cN (by omega) (by rfl) _ _ (by rfl) (by rfl) (by rfl) ?_;intro v1 w1 l8 fR xT;obtain⟨gg,cap,rfl⟩:=nH l8;obtain⟨q1,q2,q3,q4,q5⟩:=H _ _ _ _ _ l8 fR xT)
 all_goals
  refine NoPanic.normal ?_
  refine hk _ _ ?_
  clear hk
  go_wp2_with fail
  exact hQ _ _ rfl rfl rfl q4 q5
def gE(O:U):Nat->Nat
 |0=>0
 |p+1=>gE O p+if(O.get! p).toNat=10 then 1 else 0
def kC(O:U):Nat->Nat
 |0=>0
 |p+1=>if(O.get! p).toNat=10 then p+1 else kC O p
theorem DB(O:U):∀p,gE O p<=p
 |0=>Nat.le_refl _
 |p+1=>by have:=DB O p;rw[gE];split<;>omega
theorem zz(O:U):∀p,kC O p<=p
 |0=>Nat.le_refl _
 |p+1=>by have:=zz O p;rw[kC];split<;>omega
theorem DC{O:U}{a:Nat}:∀(k:Nat),(∀i,a<=i->i<a+k->(O.get! i).toNat≠10)->gE O (a+k)=gE O a∧kC O (a+k)=kC O a
 |0,_=>⟨rfl,rfl⟩
 |k+1,h=>by
  obtain⟨h1,h2⟩:=DC k (fun i hi yU=>h i hi (by omega))
  have h3:=h (a+k) (by omega) (by omega)
  rw[show a+(k+1)=a+k+1 by omega,gE,kC,if_neg h3,if_neg h3]
  exact⟨h1,h2⟩
theorem tY{O:U}{p:Nat}(h:¬(O.get! p).toNat<128)(i:Nat)(h1:p<=i)(h2:i<p+(Utf8.decode O p).2):128<=(O.get! i).toNat:=by
 rw[decode_at]at h2
 unfold decodeN at h2
 rw[if_neg h]at h2
 by_cases k1:(O.get! p).toNat/32=6∧(1<O.size-p∧(O.get! (p+1)).toNat/64=2)
 ·rw[if_pos k1]at h2
  have:i=p∨i=p+1:=by split at h2<;>(simp only at h2;omega)
  rcases this with rfl|rfl<;>omega
 ·rw[if_neg k1]at h2
  by_cases k2:(O.get! p).toNat/16=14∧(1<O.size-p∧(O.get! (p+1)).toNat/64=2)∧(2<O.size-p∧(O.get! (p+2)).toNat/64=2)
  ·rw[if_pos k2]at h2
   have:i=p∨i=p+1∨i=p+2:=by split at h2<;>(simp only at h2;omega)
   rcases this with rfl|rfl|rfl<;>omega
  ·rw[if_neg k2]at h2
   by_cases k3:(O.get! p).toNat/8=30∧(1<O.size-p∧(O.get! (p+1)).toNat/64=2)∧(2<O.size-p∧(O.get! (p+2)).toNat/64=2)∧(3<O.size-p∧(O.get! (p+3)).toNat/64=2)
   ·rw[if_pos k3]at h2
    have:i=p∨i=p+1∨i=p+2∨i=p+3:=by split at h2<;>(simp only at h2;omega)
    rcases this with rfl|rfl|rfl|rfl<;>omega
   ·rw[if_neg k3]at h2
    have:i=p:=by simp only at h2;omega
    subst this;omega
theorem DD{O:U}{p:Nat}(h:(O.get! p).toNat≠10):gE O (p+1)=gE O p∧kC O (p+1)=kC O p:=by
 rw[gE,kC,if_neg h,if_neg h];exact⟨rfl,rfl⟩
theorem JE{O:U}{p:Nat}(h:¬(O.get! p).toNat<128):gE O (p+(Utf8.decode O p).2)=gE O p∧kC O (p+(Utf8.decode O p).2)=kC O p:=
 DC _ (fun i h1 h2=>by have:=tY h i h1 h2;omega)
structure Lc(O:U)(st:St):Prop where
 w:st.bD<=st.p
 line:st.aC=gE O (st.p-st.bD)
 aM:st.aL+kC O (st.p-st.bD)=((st.p-st.bD:Nat):Int)
 nl:aB st=gE O st.p
 nc:aS st+kC O st.p=(st.p:Int)
theorem uY(O:U)(c line:Int)(hs:O.size<=2048):∀(f:Nat) (ao:Bool) (p:Nat) (aM:Int) (ns:List e_),p<=O.size->line=c+gE O p->
 (ak O line f ao p aM ns).bD<=(ak O line f ao p aM ns).p∧line=c+gE O ((ak O line f ao p aM ns).p-(ak O line f ao p aM ns).bD)∧(aM+kC O p=(p:Int)->(ak O line f ao p aM ns).aM+kC O ((ak O line f ao p aM ns).p-(ak O line f ao p aM ns).bD)=(((ak O line f ao p aM ns).p-(ak O line f ao p aM ns).bD:Nat):Int))∧
 ((ak O line f ao p aM ns).ch=10->(ak O line f ao p aM ns).bD=1∧(O.get! ((ak O line f ao p aM ns).p-1)).toNat=10)∧
 ((ak O line f ao p aM ns).ch≠10->gE O (ak O line f ao p aM ns).p=gE O ((ak O line f ao p aM ns).p-(ak O line f ao p aM ns).bD)∧kC O (ak O line f ao p aM ns).p=kC O ((ak O line f ao p aM ns).p-(ak O line f ao p aM ns).bD))
 |0,_,p,aM,ns,h,hl=>⟨Nat.zero_le _,hl,fun hc=>hc,fun e=>absurd (show(-1:Int)=10 from e) (by decide),fun _=>⟨rfl,rfl⟩⟩
 |f+1,ao,p,aM,ns,h,hl=>by
  have l1:=zz O p
  have step:∀(w:Nat) (b:Bool) (OY:List e_),p+w<=O.size->gE O (p+w)=gE O p∧kC O (p+w)=kC O p->_:=fun w b OY hw he=>by
   have:=uY O c line hs f b (p+w) (u64 (aM+w)) OY hw (by rw[he.1];exact hl)
   exact And.imp id (And.imp id (And.imp (fun g (hc:aM+kC O p=(p:Int))=>g (by rw[b_ (by omega) (by omega),he.2];omega)) id)) this
  simp only[ak]
  by_cases hp:p<O.size
  ·have d2:=km O p hp
   simp only[if_pos hp]
   by_cases hb:(O.get! p).toNat<128
   ·simp only[if_pos hb]
    by_cases h0:(O.get! p).toNat=0∧ao=false
    ·simp only[if_pos h0]
     exact step 1 false _ (by omega) (DD (by omega))
    ·simp only[if_neg h0]
     refine⟨by omega,by rw[show p+1-1=p by omega];exact hl,fun hc=>by rw[show p+1-1=p by omega];exact hc,fun e=>⟨trivial,by rw[show p+1-1=p by omega];omega⟩,fun e=> ?_⟩
     rw[show p+1-1=p by omega]
     exact DD (by omega)
   ·have d3:=JE hb
    have d4:=lW O p hb
    simp only[if_neg hb]
    by_cases h0:(Utf8.decode O p).1=0xFFFD∧(Utf8.decode O p).2=1
    ·simp only[if_pos h0]
     rw[h0.2]at d3
     exact step 1 false _ (by omega) d3
    ·simp only[if_neg h0]
     by_cases h5:(Utf8.decode O p).1=0xFEFF
     ·simp only[if_pos h5]
      exact step _ false _ d2 d3
     ·simp only[if_neg h5]
      refine⟨by omega,by rw[Nat.add_sub_cancel];exact hl,fun hc=>by rw[Nat.add_sub_cancel];exact hc,fun e=>by omega,fun _=>by rw[Nat.add_sub_cancel];exact d3⟩
  ·simp only[if_neg hp]
   exact⟨Nat.zero_le _,hl,fun hc=>hc,fun e=>absurd (show(-1:Int)=10 from e) (by decide),fun _=>⟨rfl,rfl⟩⟩
theorem Lc.next{O:U}(hs:O.size<=2048){s:St}(hn:s.p<=O.size)(h:Lc O s):Lc O (aa O s):=by
 have r:=uY O 0 (aB s) hs (O.size+1) s.ao s.p (aS s) s.ab hn (by have:=h.nl;omega)
 have rp:=jy O (aB s) (O.size+1) s.ao s.p (aS s) s.ab hn
 have e:aa O s=s.read (aB s) (ak O (aB s) (O.size+1) s.ao s.p (aS s) s.ab):=rfl
 generalize ak O (aB s) (O.size+1) s.ao s.p (aS s) s.ab=R at*
 obtain⟨r1,r2,r3,r4,r5⟩:=r
 have r3:=r3 h.nc
 have r2:aB s=gE O (R.p-R.bD):=by omega
 have a1:=DB O (R.p-R.bD)
 have a2:=zz O (R.p-R.bD)
 rw[e]
 refine⟨r1,r2,r3,?_,?_⟩
 ·show(if R.ch=10 then u64 (aB s+1)else aB s)=_
  by_cases gI:R.ch=10
  ·obtain⟨w1,w2⟩:=r4 gI
   rw[if_pos gI,b_ (by omega) (by omega),r2,w1]
   rw[w1]at r1
   show _=((gE O R.p:Nat):Int)
   rw[show R.p=R.p-1+1 by omega,gE,Nat.add_sub_cancel,if_pos w2];omega
  ·rw[if_neg gI,r2]
   show _=((gE O R.p:Nat):Int)
   rw[(r5 gI).1]
 ·show(if R.ch=10 then 0 else u64 (R.aM+R.bD))+((kC O R.p:Nat):Int)=(R.p:Int)
  by_cases gI:R.ch=10
  ·obtain⟨w1,w2⟩:=r4 gI
   rw[if_pos gI]
   rw[w1]at r1
   rw[show R.p=R.p-1+1 by omega,kC,if_pos w2];omega
  ·rw[if_neg gI,b_ (by omega) (by omega),(r5 gI).2];omega
structure Ln(O:U)(c:Int)(st:St):Prop where
 w:st.bD<=st.p
 line:st.aC=c+gE O (st.p-st.bD)
 nl:(if st.ch=10 then st.aC+1 else st.aC)=c+gE O st.p
theorem acx{O:U}(hs:O.size<=2048)(c:Int):Clo O (Ln O c) where
 next:=fun s hn hk h=>by
  have k1:=hk.l0;have k2:=hk.l
  have el:aB s=if s.ch=10 then s.aC+1 else s.aC:=by
   unfold aB
   split
   ·exact b_ (by omega) (by omega)
   ·rfl
  have r:=uY O c (aB s) hs (O.size+1) s.ao s.p (aS s) s.ab hn (by rw[el];exact h.nl)
  have e:aa O s=s.read (aB s) (ak O (aB s) (O.size+1) s.ao s.p (aS s) s.ab):=rfl
  generalize ak O (aB s) (O.size+1) s.ao s.p (aS s) s.ab=R at*
  obtain⟨r1,r2,_,r4,r5⟩:=r
  rw[e]
  refine⟨r1,r2,?_⟩
  show(if R.ch=10 then aB s+1 else aB s)=c+((gE O R.p:Nat):Int)
  by_cases gI:R.ch=10
  ·obtain⟨w1,w2⟩:=r4 gI
   rw[if_pos gI,r2,w1]
   rw[w1]at r1
   rw[show R.p=R.p-1+1 by omega,gE,Nat.add_sub_cancel,if_pos w2];omega
  ·rw[if_neg gI,(r5 gI).1];exact r2
 same:=fun a b hc h=>⟨by rw[hc.p,hc.bD];exact h.w,by rw[hc.p,hc.bD,hc.aC];exact h.line,by rw[hc.p,hc.ch,hc.aC];exact h.nl⟩
theorem Lc.same{O:U}{a b:St}(h:Lc O a)(e1:b.p=a.p)(e2:b.bD=a.bD)(e3:b.ch=a.ch)(e4:b.aC=a.aC)(e5:b.aL=a.aL):Lc O b:=
 ⟨by rw[e1,e2];exact h.w,by rw[e1,e2,e4];exact h.line,by rw[e1,e2,e5];exact h.aM,by unfold aB;rw[e1,e3,e4];exact h.nl,by unfold aS;rw[e1,e2,e3,e5];exact h.nc⟩
def NoD(O:U):Prop:=∀st,Pos O st->st.ch=46->(aa O st).ch=46->(aa O (aa O st)).ch≠10
theorem acz{O:U}(hs:O.size<=2048):Clo O (Lc O):=⟨fun s hn _ h=>h.next hs hn,fun a b h ha=>ha.same h.p h.bD h.ch h.aC h.aL⟩
theorem DE{O:U}(hs:O.size<=2048)(hd:NoD O):Ns O (Lc O):=
 ⟨acz hs,fun st r hP _ h1 h2 _ e1 e2 e3 _ h3 h=>by
  rcases h3 with h3|h3
  ·exact(h.same e1 e2 e3 h3.1 h3.2).next hs (by rw[e1];exact hP.n)
  ·exact absurd h3.1 (hd st hP h1 h2)⟩
theorem TU(O:U)(m:Int):Lc O (jj m):=⟨Nat.le_refl _,rfl,rfl,rfl,rfl⟩
theorem zA{O:U}{st:St}(hI:Iv O st){P:St->Prop}(hP:Ns O P)(h:P st):P (aK O st).1:=(jB hI.pos hI.sz).2.1.ind hI.sz hI.kp P hP h
structure Gi(O:U)(st:St):Prop where
 chain:st.ab=[]->(st.ao=true∧st.p=0)∨(st.ao=false∧∃cs,Cl O (rR O) cs st.p)
 pl:st.ao=false->st.p<O.size->0<aB st∨0<aS st
 fin:st.ch= -1->st.p=O.size
theorem Ou{O:U}{st:St}(h:(aa O st).ab=[]):st.ab=[]:=by
 obtain⟨l,hl⟩:=nM O st
 rw[h]at hl
 exact(List.append_eq_nil_iff.1 hl.symm).1
theorem BW{O:U}{line:Int}:∀(f:Nat) (p:Nat) (aM:Int),O.size<=p+f->p<=O.size->(p<O.size->0<line∨0<aM)->
 (ak O line f false p aM []).ab=[]->p=O.size∧(ak O line f false p aM []).p=p∧(ak O line f false p aM []).ch= -1∨bA O p (ak O line f false p aM []).ch (ak O line f false p aM []).bD∧(ak O line f false p aM []).p=p+(ak O line f false p aM []).bD
 |0,p,aM,h,hp,_,_=> .inl ⟨by omega,rfl,rfl⟩
 |f+1,p,aM,h,hp,hl,hn=>by
  have more:∀(g:Nat) (q:Nat) (c:Int) (n:e_),(ak O line g false q c [n]).ab≠[]:=fun g q c n=>by
   obtain⟨l,hl⟩:=gA O line g false q c [n]
   rw[hl];simp
  simp only[ak]at hn⊢
  by_cases h1:p<O.size
  ·simp only[if_pos h1]at hn⊢
   by_cases h2:(O.get! p).toNat<128
   ·simp only[if_pos h2]at hn⊢
    by_cases h3:(O.get! p).toNat=0
    ·rw[if_pos ⟨h3,trivial⟩]at hn
     exact absurd hn (more _ _ _ _)
    ·simp only[if_neg (show¬((O.get! p).toNat=0∧True) from fun h=>h3 h.1)]
     exact .inr ⟨cM h1 h2 h3,by trivial⟩
   ·simp only[if_neg h2]at hn⊢
    by_cases h3:(Utf8.decode O p).1=0xFFFD∧(Utf8.decode O p).2=1
    ·rw[if_pos h3]at hn
     exact absurd hn (more _ _ _ _)
    ·simp only[if_neg h3]at hn⊢
     by_cases h4:(Utf8.decode O p).1=0xFEFF
     ·rw[if_pos h4,if_pos (hl h1)]at hn
      exact absurd hn (more _ _ _ _)
     ·simp only[if_neg h4]
      exact .inr ⟨⟨h1,.inr ⟨h2,h3,h4,rfl,rfl⟩⟩,by trivial⟩
  ·simp only[if_neg h1]
   exact .inl ⟨by omega,trivial,trivial⟩
theorem ox{O:U}{line:Int}:∀(f:Nat) (ao:Bool) (p:Nat) (aM:Int) (ns:List e_),O.size<p+f->p<=O.size->(ak O line f ao p aM ns).ch= -1->(ak O line f ao p aM ns).p=O.size
 |0,_,p,aM,_,h,hp,_=>by omega
 |f+1,ao,p,aM,ns,h,hp,hc=>by
  simp only[ak]at hc⊢
  by_cases h1:p<O.size
  ·have d1:=gz O p
   have d2:=km O p h1
   simp only[if_pos h1]at hc⊢
   by_cases h2:(O.get! p).toNat<128
   ·simp only[if_pos h2]at hc⊢
    by_cases h3:(O.get! p).toNat=0∧ao=false
    ·simp only[if_pos h3]at hc⊢
     exact ox f _ _ _ _ (by omega) (by omega) hc
    ·simp only[if_neg h3]at hc⊢
     omega
   ·simp only[if_neg h2]at hc⊢
    by_cases h3:(Utf8.decode O p).1=0xFFFD∧(Utf8.decode O p).2=1
    ·simp only[if_pos h3]at hc⊢
     exact ox f _ _ _ _ (by omega) (by omega) hc
    ·simp only[if_neg h3]at hc⊢
     by_cases h4:(Utf8.decode O p).1=0xFEFF
     ·simp only[if_pos h4]at hc⊢
      exact ox f _ _ _ _ (by omega) d2 hc
     ·simp only[if_neg h4]at hc⊢
      omega
  ·simp only[if_neg h1]
   omega
theorem ZW{O:U}(h:(Utf8.decode O 0).1≠65279):rR O=0:=by unfold rR;rw[if_neg (fun hh=>h hh.2)]
theorem pE{O:U}{p w:Nat}{r:Int}(h:bA O p r w):Cl O p [r] (p+w):= .cons h .nil
theorem DF{O:U}(hz:O.size=0∨(O.get! 0).toNat≠0){line aM:Int}(hc:0<=aM∧aM<=10)(hn:(ak O line (O.size+1) true 0 aM []).ab=[]):∃cs,Cl O (rR O) cs (ak O line (O.size+1) true 0 aM []).p:=by
 simp only[ak]at hn⊢
 by_cases h1:0<O.size
 ·simp only[if_pos h1]at hn⊢
  have hz:=hz.resolve_left (by omega)
  by_cases h2:(O.get! 0).toNat<128
  ·have hd:=ic h2
   rw[ZW (by rw[hd];simp only;omega)]
   simp only[if_pos h2,if_neg (show¬((O.get! 0).toNat=0∧true=false) from fun h=>hz h.1)]
   exact⟨_,pE (cM h1 h2 hz)⟩
  ·simp only[if_neg h2]at hn⊢
   by_cases h3:(Utf8.decode O 0).1=0xFFFD∧(Utf8.decode O 0).2=1
   ·rw[if_pos h3]at hn
    obtain⟨l,hl⟩:=gA O line O.size false (0+1) (u64 (aM+1)) ([]++[⟨u64 (1+line),u64 (1+aM),xP⟩])
    rw[hl]at hn
    simp at hn
   ·simp only[if_neg h3]at hn⊢
    by_cases h4:(Utf8.decode O 0).1=0xFEFF
    ·have d1:=gz O 0
     have d2:=km O 0 h1
     rw[if_pos h4]at hn⊢
     have hb:rR O=(Utf8.decode O 0).2:=by unfold rR;rw[if_pos ⟨h1,h4⟩]
     rw[Nat.zero_add]at hn d2⊢
     by_cases h5:line>0∨aM>0
     ·rw[if_pos h5]at hn
      obtain⟨l,hl⟩:=gA O line O.size false (Utf8.decode O 0).2 (u64 (aM+(Utf8.decode O 0).2)) ([]++[⟨u64 (1+line),u64 (1+aM),qS⟩])
      rw[hl]at hn
      simp at hn
     ·rw[if_neg h5]at hn⊢
      rw[hb]
      rcases BW O.size (Utf8.decode O 0).2 _ (by omega) d2 (fun _=> .inr (by rw[b_ (by omega) (by omega)];omega)) hn with⟨e1,e2,_⟩|⟨e1,e2⟩
      ·rw[e2];exact⟨_,.nil⟩
      ·rw[e2];exact⟨_,pE e1⟩
    ·rw[if_neg h4,ZW h4]
     exact⟨_,pE ⟨h1,.inr ⟨h2,h3,h4,rfl,rfl⟩⟩⟩
 ·simp only[if_neg h1]
  rw[show rR O=0 by unfold rR;rw[if_neg (fun h=>h1 h.1)]]
  exact⟨_,.nil⟩
theorem Gi.next{O:U}(hs:O.size<=2048)(hz:O.size=0∨(O.get! 0).toNat≠0){s:St}(hn:s.p<=O.size)(b1:0<=s.aC∧s.aC<=10000)(b2:0<=s.aL∧s.aL+s.bD<=s.p)(h:Gi O s):Gi O (aa O s):=by
 have c1:0<=aB s∧aB s<=10001:=by
  unfold aB
  split
  ·rw[b_ (by omega) (by omega)];omega
  ·omega
 have c2:0<=aS s∧aS s<=s.p:=by
  unfold aS
  split
  ·omega
  ·rw[b_ (by omega) (by omega)];omega
 have k:=mV O (aB s) hs (O.size+1) s.ao s.p (aS s) s.ab hn c2.1 c2.2
 have rp:=jy O (aB s) (O.size+1) s.ao s.p (aS s) s.ab hn
 have re:=ox (O:=O) (line:=aB s) (O.size+1) s.ao s.p (aS s) s.ab (by omega) hn
 have e:aa O s=s.read (aB s) (ak O (aB s) (O.size+1) s.ao s.p (aS s) s.ab):=rfl
 refine⟨fun h0=> .inr ⟨rfl,?_⟩,fun _ bz=> ?_,re⟩
 ·have h1:=Ou h0
  have hr:(ak O (aB s) (O.size+1) s.ao s.p (aS s) s.ab).ab=[]:=h0
  show∃cs,Cl O (rR O) cs (ak O (aB s) (O.size+1) s.ao s.p (aS s) s.ab).p
  rw[h1]at hr⊢
  rcases h.chain h1 with⟨f1,f2⟩|⟨f1,cs,hc⟩
  ·rw[f1,f2]at hr⊢
   exact DF hz (by rw[f2]at c2;omega) hr
  ·rw[f1]at hr⊢
   rcases BW (O.size+1) s.p _ (by omega) hn (h.pl f1) hr with⟨e1,e2,_⟩|⟨e1,e2⟩
   ·rw[e2];exact⟨cs,hc⟩
   ·rw[e2];exact⟨_,hc.app (pE e1)⟩
 ·rw[e]at bz⊢
  generalize ak O (aB s) (O.size+1) s.ao s.p (aS s) s.ab=R at*
  have bz:R.p<O.size:=bz
  have dH:R.ch≠ -1:=fun e=>by have:=re e;omega
  have:=rp.2.2.1 dH
  show 0<(if R.ch=10 then u64 (aB s+1)else aB s)∨0<(if R.ch=10 then 0 else u64 (R.aM+R.bD))
  by_cases gI:R.ch=10
  ·rw[if_pos gI]
   rw[b_ (n:=aB s+1) (by omega) (by omega)]
   left;omega
  ·right
   rw[if_neg gI,b_ (by omega) (by omega)]
   omega
theorem Yr{O:U}(hs:O.size<=2048)(hz:O.size=0∨(O.get! 0).toNat≠0):Ns O (Gi O) where
 Zu:=⟨fun s hn hk h=>h.next hs hz hn (by have:=hk.l0;have:=hk.l;have:=hk.c0;have:=hk.c;omega) ⟨hk.c0,hk.c⟩,fun a b hc h=>by
  have el:aB b=aB a:=by unfold aB;rw[hc.ch,hc.aC]
  have ec:aS b=aS a:=by unfold aS;rw[hc.ch,hc.aL,hc.bD]
  refine⟨fun h0=> ?_,fun hf hp=> ?_,fun hb=> ?_⟩
  ·obtain⟨l,hl⟩:=hc.ab
   rw[h0]at hl
   rw[hc.ao,hc.p]
   exact h.chain (List.append_eq_nil_iff.1 hl.symm).1
  ·rw[el,ec];exact h.pl (by rw[←hc.ao];exact hf) (by rw[←hc.p];exact hp)
  ·rw[hc.p];exact h.fin (by rw[←hc.ch];exact hb)⟩
 rw:=fun st r hP hk h1 h2 e0 e1 e2 e3 hn hl h=>by
  have hw:=hP.w;have hp1:=hP.pos (by rw[h1];decide);have hpn:=hP.n
  have k1:=hk.l0;have k2:=hk.c0;have k3:=hk.c;have k4:=hk.l
  have ec:r.aL=st.aL∨r.aL=0:=by
   rcases hl with h|h
   ·exact .inl h.2
   ·exact .inr h.2.2
  have el:r.aC=st.aC∨r.aC=st.aC+1:=by
   rcases hl with h|h
   ·exact .inl h.1
   ·exact .inr h.2.1
  refine Gi.next hs hz (by rw[e1];exact hpn) (by omega) (by omega) ⟨fun h0=> .inr ⟨e0,?_⟩,fun _ _=> .inr ?_,fun hb=>by rw[e3,h1]at hb;cases hb⟩
  ·obtain⟨l,Vh⟩:=hn
   rw[h0]at Vh
   rw[e1]
   rcases h.chain (List.append_eq_nil_iff.1 Vh.symm).1 with⟨_,f2⟩|⟨_,hc⟩
   ·omega
   ·exact hc
  ·unfold aS
   rw[if_neg (by rw[e3,h1];decide),b_ (by omega) (by omega)]
   omega
theorem TV(O:U)(m:Int):Gi O (jj m):=⟨fun _=> .inl ⟨rfl,rfl⟩,fun h=>(by cases h),fun h=>absurd (show(32:Int)= -1 from h) (by decide)⟩
theorem DG{O:U}:∀(n:Nat) (st:St),Iv O st->fz O st<n->∃L e,mA O st L e
 |0,_,_,h=>absurd h (Nat.not_lt_zero _)
 |n+1,st,hI,h=>by
  obtain⟨gy,_,_,bz⟩:=jP hI
  by_cases h1:(aK O st).1.tok=1
  ·exact⟨_,_,.done h1⟩
  ·obtain⟨L,e,hT⟩:=DG n _ gy (by have:=bz h1;omega)
   exact⟨_,_,.more h1 hT⟩
theorem mA.ind{O:U}{st e:St}{L:List St}(h:mA O st L e){P:St->Prop}(hP:Ns O P):Iv O st->P st->Iv O e∧P e∧st.ab.length<=e.ab.length∧e.ch= -1:=by
 induction h with
 |@done st h1=>
  intro hI hp
  exact⟨(jP hI).1,zA hI hP hp,FG hI,(Bi hI.pos hI.sz hI.op).2 h1⟩
 |@more st e L h1 h2 ih=>
  intro hI hp
  obtain⟨g1,g2,g3,g4⟩:=ih (jP hI).1 (zA hI hP hp)
  exact⟨g1,g2,Nat.le_trans (FG hI) g3,g4⟩
def rT(O:U)(p:Nat):Prop:=∃cs,Cl O p cs O.size
theorem GN{O:U}(hs:O.size<=2048)(hz:O.size=0∨(O.get! 0).toNat≠0){m:Int}(h:(last O m).ab=[]):rT O (rR O):=by
 obtain⟨L,e,hT⟩:=DG _ _ (j9 O m hs) (Nat.lt_succ_self _)
 obtain⟨_,g,_,h1⟩:=hT.ind (Yr hs hz) (j9 O m hs) (TV O m)
 rw[(hT.all hs).2]at h
 have hp:=g.fin h1
 rcases g.chain h with⟨_,f2⟩|⟨_,cs,hc⟩
 ·have h0:O.size=0:=by omega
  have:rR O=0:=by unfold rR;rw[if_neg (by omega)]
  exact⟨[],by rw[this,h0];exact .nil⟩
 ·exact⟨cs,by rw[←hp];exact hc⟩
theorem kD{O:U}{p:Nat}(hp:p<O.size)(h:ca O p=false)(h0:p=0->(Utf8.decode O 0).1≠65279):bA O p (ba O p) (aN O p):=by
 unfold ca at h
 unfold ba aN
 rw[if_pos hp,if_pos hp]
 simp only[decide_eq_true hp,Bool.true_and,Bool.or_eq_false_iff,Bool.and_eq_false_iff,decide_eq_false_iff_not]at h
 obtain⟨⟨h1,h2⟩,h3⟩:=h
 refine⟨hp,?_⟩
 by_cases hb:(O.get! p).toNat<128
 ·have e:=ic hb
  rw[e]at h2⊢
  exact .inl ⟨hb,h2,rfl,rfl⟩
 ·refine .inr ⟨hb,fun hh=> ?_,fun e=> ?_,rfl,rfl⟩
  ·rcases h1 with h1|h1
   ·exact h1 hh.1
   ·exact h1 hh.2
  ·by_cases IW:p=0
   ·subst IW;exact h0 rfl e
   ·rcases h3 with h3|h3
    ·exact h3 e
    ·omega
theorem bA.clear{O:U}{p w:Nat}{r:Int}(h:bA O p r w):ca O p=false∧ba O p=r∧aN O p=w:=by
 have hl:=h.lt
 have hw:=h.w
 unfold ca ba aN
 rw[if_pos hl,if_pos hl]
 simp only[decide_eq_true hl,Bool.true_and,Bool.or_eq_false_iff,Bool.and_eq_false_iff,decide_eq_false_iff_not]
 rcases h.ch with⟨a1,a2,a3,a4⟩|⟨a1,a2,a3,a4,a5⟩
 ·have e:=ic a1
  rw[e]
  exact⟨⟨⟨.inl (by simp only;omega),a2⟩,.inl (by simp only;omega)⟩,a3.symm,a4.symm⟩
 ·have d3:=lW O p a1
  refine⟨⟨⟨?_,by omega⟩,.inl a3⟩,a4.symm,a5.symm⟩
  by_cases h1:(Utf8.decode O p).1=0xFFFD
  ·exact .inr (fun h2=>a2 ⟨h1,h2⟩)
  ·exact .inl h1
theorem rL{O:U}{p:Nat}(hp:p<=O.size)(h0:p=0->(Utf8.decode O 0).1≠65279):iP O p∨(p<O.size∧ca O p=true):=by
 by_cases h1:p<O.size
 ·cases hb:ca O p with
  |true=>exact .inr ⟨h1,rfl⟩
  |false=>exact .inl (.inl ⟨_,_,kD h1 hb h0⟩)
 ·exact .inl (.inr (by omega))
theorem Ys{O:U}{p:Nat}(h1:p<O.size)(h:ca O p=true):¬iP O p:=fun hc=>by
 rcases hc with⟨r,w,hc⟩|hc
 ·rw[hc.clear.1]at h;cases h
 ·omega
theorem bA.nl{O:U}{p w:Nat}{r:Int}(h:bA O p r w)(hr:r≠10):gE O (p+w)=gE O p∧kC O (p+w)=kC O p:=by
 rcases h.ch with⟨a1,a2,a3,a4⟩|⟨a1,a2,a3,a4,a5⟩
 ·subst a4;exact DD (by omega)
 ·subst a5;exact JE a1
theorem Cl.nl{O:U}{p q:Nat}{cs:List Int}(h:Cl O p cs q)(hc:∀x∈cs,x≠10):gE O q=gE O p∧kC O q=kC O p:=by
 induction h with
 |nil=>exact⟨rfl,rfl⟩
 |cons h1 h2 ih=>
  have a:=h1.nl (hc _ (by simp))
  have b:=ih (fun x hx=>hc x (by simp[hx]))
  exact⟨b.1.trans a.1,b.2.trans a.2⟩
theorem Cl.le2{O:U}{p q:Nat}{cs:List Int}(h:Cl O p cs q)(hp:p<=O.size):q<=O.size:=by
 induction h with
 |nil=>exact hp
 |cons h1 h2 ih=>have:=h1.w;exact ih (by omega)
theorem rT.on{O:U}{p q:Nat}{cs:List Int}(h:rT O p)(hc:Cl O p cs q):rT O q:=by
 induction hc with
 |nil=>exact h
 |@cons p w q r cs h1 h2 ih=>
  refine ih ?_
  obtain⟨ds,hd⟩:=h
  cases hd with
  |nil=>have:=h1.lt;omega
  |cons k1 k2=>rw[(h1.uniq k1).2];exact⟨_,k2⟩
theorem rT.jq{O:U}{p:Nat}(h:rT O p):iP O p:=by
 obtain⟨cs,hc⟩:=h
 exact hc.jq (.inr rfl)
def GO(O:U)(s:St)(t:eP):Prop:=Aj s t∧(NoD O->(t.cls≠4∨t.text.size≠0)->s.line=t.line∧s.aM=t.aM)
def wD(O:U)(L:List St)(W:List eP):Prop:=W.length<=L.length∧∀(i:Nat) (s:St) (t:eP),L[i]? =some s->W[i]? =some t->GO O s t
theorem wD.app{O:U}{L:List St}{W:List eP}(h:wD O L W)(L':List St):wD O (L++L') W:=by
 refine⟨by rw[List.length_append];have:=h.1;omega,fun i s t hs ht=> ?_⟩
 have hi:=(List.getElem?_eq_some_iff.1 ht).1
 have:=h.1
 rw[List.getElem?_append_left (by omega)]at hs
 exact h.2 i s t hs ht
theorem wD.take{O:U}{L:List St}{W:List eP}(h:wD O L W)(k:Nat):wD O L (W.take k):=by
 refine⟨by rw[List.length_take];have:=h.1;omega,fun i s t hs ht=> ?_⟩
 rw[List.getElem?_take]at ht
 split at ht
 ·exact h.2 i s t hs ht
 ·cases ht
theorem wD.snoc{O:U}{L:List St}{W:List eP}(h:wD O L W)(hl:L.length=W.length){s:St}{t:eP}(hs:GO O s t):wD O (L++[s]) (W++[t]):=by
 refine⟨by simp[hl],fun i a b ha hb=> ?_⟩
 by_cases hi:i<W.length
 ·rw[List.getElem?_append_left (by omega)]at ha
  rw[List.getElem?_append_left hi]at hb
  exact h.2 i a b ha hb
 ·rw[List.getElem?_append_right (by omega)]at ha
  rw[List.getElem?_append_right (by omega),hl.symm]at hb
  cases hk:i-L.length with
  |zero=>rw[hk]at ha hb;cases ha;cases hb;exact hs
  |succ k=>rw[hk]at ha;simp at ha
def afP(r:Dh):e_:=⟨r.line,r.aM,r.text⟩
def O1(O:U)(m:Int)(st:St)(rem:List Dh):Prop:=(m=0->st.ab=[])∧(m=1->NoD O->st.ab=rem.map afP)
def bO(O:U)(m:Int)(x:LS)(st:St)(y:LS):Prop:=
 ∀L0,L0.length=x.out.length->wD O L0 x.out->∃L e,mA O st L e∧wD O (L0++L) y.out∧
  (y.ai=0->(L0++L).length=y.out.length∧O1 O m e y.rem)∧(y.ai=1->m=0->rT O x.p->e.ab≠[])
def GoB(O:U)(q:Nat)(nl:Bool)(st:St):Prop:=∃p cs,p<=O.size∧Go O p st∧Cl O p cs q∧∀x∈cs,aI nl x=true
structure Bd(O:U)(m:Int)(x:LS)(st:St):Prop where
 iv:Iv O st
 mode:st.mode=m
 nl:st.au=x.ends
 le:x.p<=O.size
 b0:x.p=0->(Utf8.decode O 0).1≠65279
 clean:x.ai=0
 fst:x.fst<=x.out.length
 line:x.line=1+gE O x.p
 bol:x.st=kC O x.p
 lc:NoD O->Lc O st
 at_:iP O x.p->GoB O x.p x.ends st∧O1 O m st x.rem
theorem Bd.pos{O:U}{m:Int}{x:LS}{st:St}(h:Bd O m x st):fQ O {st with au:=false}:=tp h.iv.pos false
def Ext(O:U)(st:St)(L:List St)(aO:St):Prop:=∀L2 e,mA O aO L2 e->mA O st (L++L2) e
theorem Ext.refl(O:U)(st:St):Ext O st [] st:=fun _ _ h=>h
theorem Ext.one{O:U}{st:St}(h:(aK O st).1.tok≠1):Ext O st [(aK O st).1] (aK O st).1:=fun _ _ hT=> .more h hT
theorem mA.eq{O:U}{a b e:St}{L:List St}(h:aK O a=aK O b)(hT:mA O b L e):mA O a L e:=by
 cases hT with
 |done h1=>rw[←h];exact .done (by rw[h];exact h1)
 |more h1 h2=>rw[←h];exact .more (by rw[h];exact h1) (by rw[h];exact h2)
theorem Ext.eq{O:U}{a b:St}(h:aK O a=aK O b):Ext O a [] b:=fun _ _ hT=>hT.eq h
theorem Ext.trans{O:U}{a b c:St}{L L':List St}(h:Ext O a L b)(h':Ext O b L' c):Ext O a (L++L') c:=fun L2 e hT=>by
 rw[List.append_assoc];exact h _ _ (h' _ _ hT)
theorem bO.ext{O:U}{m:Int}{x x' y:LS}{st aO:St}(hE:Ext O st [] aO)(ho:x'.out=x.out)(hg:rT O x.p->rT O x'.p)(h:bO O m x' aO y):bO O m x st y:=fun L0 hl hp=>by
 obtain⟨L,e,h1,h2,h3,h4⟩:=h L0 (by rw[ho];exact hl) (by rw[ho];exact hp)
 exact⟨L,e,hE _ _ h1,h2,h3,fun a b c=>h4 a b (hg c)⟩
theorem bO.one{O:U}{m:Int}{x x' y:LS}{st aO:St}{t:eP}(hE:Ext O st [aO] aO)(ho:x'.out=x.out++[t])(ht:GO O aO t)(hg:rT O x.p->rT O x'.p)(h:bO O m x' aO y):bO O m x st y:=fun L0 hl hp=>by
 obtain⟨L,e,h1,h2,h3,h4⟩:=h (L0++[aO]) (by rw[ho];simp[hl]) (by rw[ho];exact hp.snoc hl ht)
 rw[List.append_assoc]at h2 h3
 exact⟨[aO]++L,e,hE _ _ h1,h2,h3,fun a b c=>h4 a b (hg c)⟩
theorem bO.pre{O:U}{m:Int}{x y:LS}{st:St}(hI:Iv O st){k:Nat}(ho:y.out=x.out.take k)(hs:y.ai≠0)(ht:y.ai=1->m=0->rT O x.p->∀L e,mA O st L e->e.ab≠[]):bO O m x st y:=fun L0 hl hp=>by
 obtain⟨L,e,hT⟩:=DG _ st hI (Nat.lt_succ_self _)
 exact⟨L,e,hT,by rw[ho];exact(hp.app L).take k,fun h=>absurd h hs,fun a b c=>ht a b c L e hT⟩
theorem qd{O:U}{st:St}(hI:Iv O st)(h:(aK O st).1.ab≠[]):∀L e,mA O st L e->e.ab≠[]:=fun L e hT=>by
 have key:∀s:St,∀{L:List St} {e:St},mA O s L e->Iv O s->s.ab≠[]->e.ab≠[]:=fun s L e hT hI hn he=>by
  have:=(hT.ind (P:=fun _=>True) ⟨⟨fun _ _ _ _=>trivial,fun _ _ _ _=>trivial⟩,fun _ _ _ _ _ _ _ _ _ _ _ _ _=>trivial⟩ hI trivial).2.2.1
  rw[he]at this
  exact hn (List.eq_nil_of_length_eq_zero (by simpa using this))
 cases hT with
 |done h1=>exact h
 |more h1 h2=>exact key _ h2 (jP hI).1 h
theorem wz.at{O:U}{q:Nat}{st n:St}(h:wz O q st n)(hp:fQ O st)(hs:O.size<=2048)(hk:Kp st)(hd:NoD O)(hl:Lc O st):n.line=1+(gE O q:Int)∧n.aM+kC O q=1+(q:Int)∧Lc O n:=by
 obtain⟨bl,nl,e⟩:=h.eq
 have l1:=(ly (nl:=nl) hp).2.1.ind hs hk _ (DE hs hd) hl
 have l2:Lc O n:=by rw[e];exact l1.same rfl rfl rfl rfl rfl
 have a:=h.gQ.cut
 have b1:=l2.line;have b2:=l2.aM
 rw[a]at b1 b2
 have c1:=DB O q
 have c2:=zz O q
 have hq:=h.gQ.pos
 have hq1:=hq.w;have ui:=hq.n
 have e1:n.line=u64 (1+n.aC):=by rw[e];rfl
 have e2:n.aM=u64 (1+n.aL):=by rw[e];rfl
 rw[b_ (by omega) (by omega)]at e1 e2
 exact⟨by omega,by omega,l2⟩
structure Nx(O:U)(m:Int)(x:LS)(st n:St):Prop where
 here:wz O x.p {st with au:=false} n
 nts:O1 O m st x.rem
 pl:NoD O->n.line=(x.line:Int)∧n.aM=(x.p:Int)-x.st+1∧Lc O n
theorem Nx.of{O:U}{m:Int}{x:LS}{st n:St}(h:Bd O m x st)(hn:wz O x.p {st with au:=false} n)(ht:O1 O m st x.rem):Nx O m x st n:=by
 refine⟨hn,ht,fun hd=> ?_⟩
 obtain⟨a,b,c⟩:=hn.at h.pos h.iv.sz (h.iv.kp.same rfl rfl rfl rfl) hd ((h.lc hd).same rfl rfl rfl rfl rfl)
 have e1:=h.line;have e2:=h.bol
 have c2:=zz O x.p
 exact⟨by omega,by omega,c⟩
theorem Bd.sw{O:U}{m:Int}{x:LS}{st:St}(h:Bd O m x st){r:Int}(hr:(∃w,bA O x.p r w)∨(x.p=O.size∧r= -1))(hs:aI x.ends r=false)(h1:cj r=false)(h2:r<128):
 ∃n,Nx O m x st n∧n.ch=r∧aK O st=wy O x.ends ((jM O x.ends n).get iN):=by
 have hc:iP O x.p:=by
  rcases hr with⟨w,hc⟩|hc
  ·exact .inl ⟨_,_,hc⟩
  ·exact .inr hc.1
 obtain⟨⟨p,cs,g1,g2,g3,g4⟩,ht⟩:=h.at_ hc
 obtain⟨n,hn,kE,e⟩:=WT (nl:=x.ends) h.iv.sz h.pos (g2.same rfl rfl rfl rfl) g1 g3 g4 hr hs h1 h2
 exact⟨n,.of h hn ht,kE,by rw[cR,h.nl];exact e⟩
theorem Bd.to{O:U}{m:Int}{x y:LS}{st:St}(h:Bd O m x st)(GP:(aK O st).1.au=y.ends)(hp:x.p<=y.p)(hle:y.p<=O.size)(hc:y.ai=0)(hf:y.fst<=y.out.length)(hl:y.line=1+gE O y.p)(hb:y.st=kC O y.p)
 (oT:iP O y.p->GoB O y.p y.ends (aK O st).1∧O1 O m (aK O st).1 y.rem):Bd O m y (aK O st).1 where
 iv:=(jP h.iv).1
 mode:=(jB h.iv.pos h.iv.sz).2.1.mode.trans h.mode
 nl:=GP
 le:=hle
 b0:=fun e=>h.b0 (by omega)
 clean:=hc
 fst:=hf
 line:=hl
 bol:=hb
 lc:=fun hd=>zA h.iv (DE h.iv.sz hd) (h.lc hd)
 at_:=oT
theorem GoB.gQ{O:U}{q:Nat}{nl:Bool}{st:St}(h:Std O q st):GoB O q nl st:=⟨q,[],by have:=h.here;have:=h.pos.n;omega,.inl h,.nil,fun x hx=>absurd hx List.not_mem_nil⟩
theorem GoB.snoc{O:U}{q w:Nat}{r:Int}{nl:Bool}{st:St}(h:GoB O q nl st)(hc:bA O q r w)(hb:aI nl r=true):GoB O (q+w) nl st:=by
 obtain⟨p,cs,g1,g2,g3,g4⟩:=h
 refine⟨p,cs++[r],g1,g2,g3.snoc hc,fun x hx=> ?_⟩
 rcases List.mem_append.1 hx with hx|hx
 ·exact g4 x hx
 ·simp only[List.mem_singleton]at hx;subst hx;exact hb
theorem O1.eq{O:U}{m:Int}{a b:St}{rem:List Dh}(h:O1 O m a rem)(e:b.ab=a.ab):O1 O m b rem:=⟨fun h0=>e.trans (h.1 h0),fun h0 hd=>e.trans (h.2 h0 hd)⟩
theorem Bd.blank{O:U}{m:Int}{x:LS}{st:St}(h:Bd O m x st)(hp:x.p<O.size)(hb:(O.get! x.p).toNat=32∨(O.get! x.p).toNat=9∨(O.get! x.p).toNat=13):Bd O m {x with p:=x.p+1} st∧(rT O x.p->rT O (x.p+1)):=by
 have hc:=cM hp (by omega) (by omega)
 have hn:=DD (O:=O) (p:=x.p) (by omega)
 refine⟨⟨h.iv,h.mode,h.nl,hp,fun e=>absurd e (Nat.succ_ne_zero _),h.clean,h.fst,by rw[hn.1];exact h.line,by rw[hn.2];exact h.bol,h.lc,fun _=> ?_⟩,fun hg=>hg.on (.cons hc .nil)⟩
 obtain⟨a,b⟩:=h.at_ (.inl ⟨_,_,hc⟩)
 refine⟨a.snoc hc ?_,b⟩
 rcases hb with e|e|e<;>(rw[e];cases x.ends<;>rfl)
theorem Lu{O:U}{p:Nat}(h:(O.get! p).toNat=10):gE O (p+1)=gE O p+1∧kC O (p+1)=p+1:=by rw[gE,kC,if_pos h,if_pos h];exact⟨rfl,rfl⟩
theorem Bd.aC{O:U}{m:Int}{x:LS}{st:St}(h:Bd O m x st)(hp:x.p<O.size)(hb:(O.get! x.p).toNat=10)(he:x.ends=false):Bd O m {x with line:=x.line+1,st:=x.p+1,p:=x.p+1} st∧(rT O x.p->rT O (x.p+1)):=by
 have hc:=cM hp (by omega) (by omega)
 rw[hb]at hc
 have hn:=Lu hb
 refine⟨⟨h.iv,h.mode,h.nl,hp,fun e=>absurd e (Nat.succ_ne_zero _),h.clean,h.fst,by show x.line+1=1+gE O (x.p+1);rw[hn.1,h.line];omega,by show x.p+1=kC O (x.p+1);rw[hn.2],h.lc,fun _=> ?_⟩,fun hg=>hg.on (.cons hc .nil)⟩
 obtain⟨a,b⟩:=h.at_ (.inl ⟨_,_,hc⟩)
 have a':=a.snoc hc (by rw[he];rfl)
 exact⟨a',b⟩
theorem JF{s:St}(h:s.tok=18)(h2:s.lit.toList≠[115,101,109,105,99,111,108,111,110])(line:Int):Aj s ⟨4,⟨#[]⟩,0,line,0⟩:=by
 refine⟨?_,fun h=>by cases h⟩
 rw[h]
 show gX (aH 18) s.lit (lB s.op)=(4,⟨#[]⟩)
 unfold gX
 rw[By,if_neg (by decide),if_neg (by decide),if_neg (by decide),if_neg (by decide),if_neg (by decide),if_neg (by decide),if_pos rfl,if_neg h2]
theorem rM{O:U}{s:St}(h:s.tok=18)(h2:s.lit.toList≠[115,101,109,105,99,111,108,111,110])(line:Int):GO O s ⟨4,⟨#[]⟩,0,line,0⟩:=
 ⟨JF h h2 line,fun _ hh=>by
  rcases hh with hh|hh
  ·exact absurd rfl hh
  ·exact absurd rfl hh⟩
theorem Bd.afQ{O:U}{m:Int}{x:LS}{st:St}(h:Bd O m x st)(hp:x.p<O.size)(hb:(O.get! x.p).toNat=10)(he:x.ends=true):∃s,Ext O st [s] s∧GO O s ⟨4,⟨#[]⟩,0,x.line,0⟩∧
 Bd O m {x with line:=x.line+1,st:=x.p+1,p:=x.p+1,ends:=false,out:=x.out++[⟨4,⟨#[]⟩,0,x.line,0⟩]} s∧(rT O x.p->rT O (x.p+1)):=by
 have hc:=cM hp (by omega) (by omega)
 rw[hb]at hc
 have hn:=Lu hb
 obtain⟨n,g,kE,e⟩:=h.sw (.inl ⟨1,hc⟩) (by rw[he];rfl) (by decide) (by decide)
 have e1:(jM O x.ends n).get iN= .done (lit gu (aa O n)) []:=by
  unfold jM
  simp[af.get,kE]
 rw[e1]at e
 have e2:(aK O st).1=lit gu (aa O n):=by rw[e];rfl
 have ht:(aK O st).1.tok=18:=by rw[e2];rfl
 refine⟨_,.one (by rw[ht];decide),rM ht (by rw[e2];show gu.toList≠_;rw[show gu.toList=[110,101,119,108,105,110,101]by kernel_rfl];decide) _,?_,fun hg=>hg.on (.cons hc .nil)⟩
 refine h.to (by rw[e2];exact g.here.nl) (Nat.le_succ _) hp h.clean (by simp;have:=h.fst;omega) (by show x.line+1=1+gE O (x.p+1);rw[hn.1,h.line];omega) (by show x.p+1=kC O (x.p+1);rw[hn.2]) (fun ie=> ?_)
 have hw:=(g.here.gQ.of hc).2
 have hs:=cv g.here.gQ (by rw[hw];exact ie)
 rw[hw]at hs
 rw[e2]
 exact⟨.gQ (hs.1.same rfl rfl rfl rfl),g.nts.eq (hs.2.trans g.here.ab)⟩
theorem bO.blank{O:U}{m:Int}{y:LS}:∀(n:Nat) (x:LS) (st:St),Bd O m x st->O.size<=x.p+n->(∀x' aO,Bd O m x' aO->x'=bU O n x->x.p<=x'.p->(x'.p<O.size->(O.get! x'.p).toNat≠10∧(O.get! x'.p).toNat≠32∧(O.get! x'.p).toNat≠9∧(O.get! x'.p).toNat≠13)->bO O m x' aO y)->bO O m x st y
 |0,x,st,h,hn,hk=>hk x st h rfl (Nat.le_refl _) (fun hp=>by omega)
 |n+1,x,st,h,hn,hk=>by
  by_cases hp:x.p<O.size
  ·by_cases gI:(O.get! x.p).toNat=10
   ·have OQ:∀x1:LS,br O (cY x) 1=x1->x1.p=x.p+1->∀x' aO,Bd O m x' aO->x'=bU O n x1->x1.p<=x'.p->(x'.p<O.size->(O.get! x'.p).toNat≠10∧(O.get! x'.p).toNat≠32∧(O.get! x'.p).toNat≠9∧(O.get! x'.p).toNat≠13)->bO O m x' aO y:=fun x1 e1 e2 x' aO fX oD Yt He=>
     hk x' aO fX (by rw[oD,bU,if_pos hp,if_pos gI,e1]) (by omega) He
    cases he:x.ends with
    |true=>
     obtain⟨s,g1,g2,g3,g4⟩:=h.afQ hp gI he
     refine bO.one (x':={x with line:=x.line+1,st:=x.p+1,p:=x.p+1,ends:=false,out:=x.out++[⟨4,⟨#[]⟩,0,x.line,0⟩]}) g1 rfl g2 g4 (bO.blank n _ s g3 (by show O.size<=x.p+1+n;omega) (OQ _ ?_ rfl))
     unfold br cY
     rw[if_pos gI,if_pos he]
    |false=>
     obtain⟨g3,g4⟩:=h.aC hp gI he
     refine bO.ext (x':={x with line:=x.line+1,st:=x.p+1,p:=x.p+1}) (.refl _ _) rfl g4 (bO.blank n _ st g3 (by show O.size<=x.p+1+n;omega) (OQ _ ?_ rfl))
     unfold br cY
     rw[if_pos gI,if_neg (by rw[he];decide)]
     rw[←he]
   ·by_cases hb:(O.get! x.p).toNat=32∨(O.get! x.p).toNat=9∨(O.get! x.p).toNat=13
    ·obtain⟨g3,g4⟩:=h.blank hp hb
     refine bO.ext (x':={x with p:=x.p+1}) (.refl _ _) rfl g4 (bO.blank n _ st g3 (by show O.size<=x.p+1+n;omega) (fun x' aO fX oD Yt He=>hk x' aO fX ?_ (by have:x.p+1<=x'.p:=Yt;omega) He))
     rw[oD,bU,if_pos hp,if_neg gI,if_pos hb]
     unfold br
     rw[if_neg gI]
    ·exact hk x st h (by rw[bU,if_pos hp,if_neg gI,if_neg hb]) (Nat.le_refl _) (fun _=>⟨gI,fun e=>hb (.inl e),fun e=>hb (.inr (.inl e)),fun e=>hb (.inr (.inr e))⟩)
  ·exact hk x st h (by rw[bU,if_neg hp]) (Nat.le_refl _) (fun h=>absurd h hp)
theorem ext_nil(O:U)(p:Nat)(h:p<=O.size):O.extract p p=⟨#[]⟩:=fx (by rw[aA _ _ _ h];show p-p=0;omega) (fun j hj=>by rw[aA _ _ _ h]at hj;omega)
theorem Bd.iN{O:U}{m:Int}{x:LS}{st:St}(h:Bd O m x st)(hp:x.p=O.size)(he:x.ends=false):bO O m x st (dk O x 0 0 x.p):=by
 obtain⟨n,g,kE,e⟩:=h.sw (r:= -1) (.inr ⟨hp,rfl⟩) (by rw[he];rfl) (by decide) (by decide)
 have e1:(jM O x.ends n).get Sc.iN= .done (tk 1 n) []:=by
  unfold jM
  rw[he]
  simp[af.get,kE,te]
 rw[e1]at e
 have e2:(aK O st).1=tk 1 n:=by rw[e];rfl
 have ht:(aK O st).1.tok=1:=by rw[e2];rfl
 intro L0 hl acg
 refine⟨_,_,.done ht,?_,fun _=>⟨?_,?_⟩,fun hs=> ?_⟩
 ·refine acg.snoc hl ⟨?_,fun hd _=> ?_⟩
  ·have:=Se ht
   unfold Aj at this⊢
   refine⟨this.1.trans ?_,fun h=>by cases h⟩
   show(_,_)=(_,O.extract x.p x.p)
   rw[ext_nil O x.p h.le];rfl
  ·rw[e2]
   exact⟨(g.pl hd).1,(g.pl hd).2.1⟩
 ·show(L0++[_]).length=(x.out++[_]).length
  simp[hl]
 ·rw[e2]
  exact g.nts.eq g.here.ab
 ·have:x.ai=1:=hs
  rw[h.clean]at this;cases this
theorem Bd.fin{O:U}{m:Int}{x:LS}{st:St}(h:Bd O m x st)(hp:x.p=O.size):bO O m x st (dk O (cY x) 0 0 x.p):=by
 cases he:x.ends with
 |false=>
  have e:cY x=x:=by unfold cY;rw[if_neg (by rw[he];decide),←he]
  rw[e];exact h.iN hp he
 |true=>
  have e:cY x={x with out:=x.out++[⟨4,⟨#[]⟩,0,x.line,0⟩],ends:=false}:=by unfold cY;rw[if_pos he]
  rw[e]
  obtain⟨n,g,kE,e⟩:=h.sw (r:= -1) (.inr ⟨hp,rfl⟩) (by rw[he];rfl) (by decide) (by decide)
  have e1:(jM O x.ends n).get Sc.iN= .done (lit Rb n) []:=by
   unfold jM
   rw[he]
   simp[af.get,kE]
  rw[e1]at e
  have e2:(aK O st).1=lit Rb n:=by rw[e];rfl
  have ht:(aK O st).1.tok=18:=by rw[e2];rfl
  refine bO.one (x':={x with out:=x.out++[⟨4,⟨#[]⟩,0,x.line,0⟩],ends:=false}) (.one (by rw[ht];decide)) rfl (rM ht (by rw[e2];show Rb.toList≠_;rw[show Rb.toList=[69,79,70]by kernel_rfl];decide) _) (fun h=>h) ?_
  refine Bd.iN (h.to (by rw[e2];exact g.here.nl) (Nat.le_refl _) h.le h.clean (by simp;have:=h.fst;omega) h.line h.bol (fun ie=> ?_)) hp rfl
  rw[e2]
  exact⟨.gQ (g.here.gQ.same rfl rfl rfl rfl),g.nts.eq g.here.ab⟩
end
end Sc
end Go.Proofs.YtogkcphobhhbdaaGreatDoor
