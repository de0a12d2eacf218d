/- The scanner of the program told as plain functions, part 2: texts joined and shortened by a program (wip/tools/mini.py). -/
import Derived.Test.YtogkcphobhhbdaaGreatDoorYc1
import GoSem.Core.Utf8
import GoSem.Core.View
set_option linter.unusedVariables false
set_option linter.unusedSimpArgs false
set_option maxHeartbeats 32000000
namespace Go.Proofs.YtogkcphobhhbdaaGreatDoor
open Go Go.RowKit
namespace Ev
set_option maxRecDepth 100000
noncomputable section
theorem oQ{Y:Sys}{bl:List Nat}{w:World}{tm:List (Nat×SV)}{a:Act}{d:Option Tmp}{sv:SV}{v:Value}{N:Nat}(hN:a.tmps.size=N)(hd:iF N d=true)
 (h:∀i,Rel Y bl w (look tm i) (a.tmps.getD i undef))(hv:Rel Y bl w sv v):∀i,Rel Y bl w (look (oH d sv tm) i) ((a.put d v).tmps.getD i undef):=by
 cases d with
 |none=>exact h
 |some d=>
  have bz:d<a.tmps.size:=by rw[hN];exact Nat.le_of_ble_eq_true hd
  intro i
  simp only[oH,aF,Act.put]
  by_cases hi:i=d
  ·subst hi
   simp[bz]
   exact hv
  ·have wb:¬d=i:=fun e=>hi e.symm
   have:(a.tmps.setIfInBounds d v).getD i undef=a.tmps.getD i undef:=by
    simp[Array.getD_eq_getD_getElem?,Array.getElem?_setIfInBounds,wb]
   rw[if_neg hi,this]
   exact h i
theorem put_defers(a:Act)(d:Option Tmp)(v:Value):(a.put d v).defers=a.defers:=by cases d<;>rfl
theorem mM(a:Act)(d:Option Tmp)(v:Value):(a.put d v).tmps.size=a.tmps.size:=by cases d<;>simp[Act.put]
theorem ug{Y:Sys}{bl:List Nat}{w:World}{tm:List (Nat×SV)}{a:Act}{d:Nat}{sv:SV}
 (h:∀i,Rel Y bl w (look tm i) (a.tmps.getD i undef))(hv:Rel Y bl w sv (a.tmps.getD d undef)):∀i,Rel Y bl w (look ((d,sv)::tm) i) (a.tmps.getD i undef):=by
 intro i
 rw[aF]
 by_cases hi:i=d
 ·subst hi;rw[if_pos rfl];exact hv
 ·rw[if_neg hi];exact h i
theorem cL.put{Y:Sys}{N:Nat}{e:E Y}{bl dw:List Nat}{a:Act}{w w':World}(h:cL Y N e bl a w){c':aq Y}{d:Bool}{sv:SV}{v:Value}{dst:Option Tmp}
 (hd:iF N dst=true)(hc:fu Y dw c' w')(hv:Rel Y dw w' sv v)(hp:bl<+:dw)(hs:d=false->∀o,w'.cell? ⟨Y.B,o,none⟩=w.cell? ⟨Y.B,o,none⟩):
 cL Y N ⟨c',oH dst sv (bif d then clean e.tm else e.tm)⟩ dw (a.put dst v) w':=
 ⟨hc,by rw[put_defers];exact h.defers,by rw[mM];exact h.size,oQ h.size hd (Hz h.rel hp hs) hv⟩
theorem cL.skip{Y:Sys}{N:Nat}{e:E Y}{bl:List Nat}{a:Act}{w:World}(h:cL Y N e bl a w){dst:Option Tmp}(hd:iF N dst=true):
 cL Y N ⟨e.c,oH dst (.val (.tuple #[])) e.tm⟩ bl (a.put dst undef) w:=
 ⟨h.core,by rw[put_defers];exact h.defers,by rw[mM];exact h.size,oQ h.size hd h.rel rfl⟩
theorem HA{Y:Sys}(hY:Laws Y){C:eS Y}(hC:C.Ok){o:Oper}{e:E Y}{bl:List Nat}{a:Act}{w:World}{k:E Y->af (E Y)}{Q:E Y->Prop}
 (hI:cL Y C.N e bl a w)(hd:iF C.N o.dst=true)(h:(il C o e k).aD Q){K:Act->World->Prop}{Qx:Exit->Act->World->Prop}
 (hK:∀e' dw a' w',(k e').aD Q->cL Y C.N e' dw a' w'->Ext Y bl dw w w'->K a' w')
 (hOut:(∃e',(k e').aD Q∧Y.eM e'.c.st)->LetsOut Qx):o.wp Y.P a w K Qx:=by
 unfold il at h
 cases he:gF o.op with
 |true=>
  simp only[he,cond_true,ax]at h
  refine Au hY hC hI.core hI.rel h (fun sv c' d v dw w' hq hrel hinv bN kk=> ?_) (fun⟨p,hp,hb⟩=>hOut ⟨_,hp,hb⟩)
  exact hK _ _ _ _ hq (hI.put hd hinv hrel bN.pre kk) bN
 |false=>
  simp only[he,cond_false,ax]at h
  obtain⟨sv,v,hq,eg,hrel⟩:=qM hY hI.core hI.rel h
  unfold Oper.wp
  rw[eg,Oper.upon_value]
  exact hK _ bl _ w hq (hI.put (d:=false) hd hI.core hrel (List.prefix_refl _) (fun _ _=>rfl)) (Ext.refl _ _ _)
theorem xI{ops:Array Oper}{a:Act}{j d:Nat}(hj:(ops[j]?).bind (·.dst)=some d):yielded ops a.tmps j=match a.tmps.getD d undef with| .bool b=>some b|_=>none:=by
 unfold yielded
 rw[hj]
 simp only[Option.bind_some]
 by_cases hd:d<a.tmps.size
 ·simp only[Array.getD_eq_getD_getElem?,Array.getElem?_eq_getElem hd,Option.getD_some]
  cases a.tmps[d]<;>rfl
 ·have h1:a.tmps[d]? =none:=Array.getElem?_eq_none (by omega)
  have h2:a.tmps.getD d undef=undef:=by simp[Array.getD_eq_getD_getElem?,h1]
  rw[h1,h2];rfl
theorem vm{Y:Sys}{C:eS Y}{ops:Array Oper}{o:Oper}{rest:List Oper}{e:E Y}{bl:List Nat}{a:Act}{w:World}{Q:E Y->Prop}(hI:cL Y C.N e bl a w)
 (h:(cT C ops (o::rest) e).aD Q):iF C.N o.dst=true∧∃e':E Y,cL Y C.N e' bl a w∧
   ((Region.wanted o (yielded ops a.tmps)=true∧(il C o e' (cT C ops rest)).aD Q)∨(Region.wanted o (yielded ops a.tmps)=false∧(nz o e' (cT C ops rest)).aD Q)):=by
 simp only[cT]at h
 cases hd:iF C.N o.dst with
 |false=>simp only[hd,cond_false,af.aD]at h
 |true=>
  refine⟨rfl,?_⟩
  simp only[hd,cond_true]at h
  cases hg:o.guard with
  |none=>
   simp only[hg]at h
   exact⟨e,hI,.inl ⟨by simp[Region.wanted,hg],h⟩⟩
  |some p=>
   obtain⟨j,want⟩:=p
   simp only[hg]at h
   split at h
   ·exact h.elim
   ·rename_i d hj
    have hy:=xI (a:=a) hj
    have hr:=hI.rel d
    have hw:Region.wanted o (yielded ops a.tmps)=((yielded ops a.tmps j)==some want):=by simp only[Region.wanted,hg]
    rw[hw,hy]
    split at h<;>rename_i hk<;>(try rw[hk]at hr)
    ·rw[show a.tmps.getD d undef= .bool true from hr]
     cases want with
     |true=>exact⟨e,hI,.inl ⟨rfl,h⟩⟩
     |false=>exact⟨e,hI,.inr ⟨rfl,h⟩⟩
    ·rw[show a.tmps.getD d undef= .bool false from hr]
     cases want with
     |true=>exact⟨e,hI,.inr ⟨rfl,h⟩⟩
     |false=>exact⟨e,hI,.inl ⟨rfl,h⟩⟩
    ·rename_i b
     have OS:a.tmps.getD d undef= .bool b:=hr
     rw[OS]
     cases b with
     |true=>
      have h1:=h.1 rfl
      have gy:cL Y C.N ⟨e.c,(d,.tt)::e.tm⟩ bl a w:=⟨hI.core,hI.defers,hI.size,ug hI.rel OS⟩
      cases want with
      |true=>exact⟨_,gy,.inl ⟨rfl,h1⟩⟩
      |false=>exact⟨_,gy,.inr ⟨rfl,h1⟩⟩
     |false=>
      have h1:=h.2 rfl
      have gy:cL Y C.N ⟨e.c,(d,.ff)::e.tm⟩ bl a w:=⟨hI.core,hI.defers,hI.size,ug hI.rel OS⟩
      cases want with
      |true=>exact⟨_,gy,.inr ⟨rfl,h1⟩⟩
      |false=>exact⟨_,gy,.inl ⟨rfl,h1⟩⟩
    ·rw[show a.tmps.getD d undef= .tuple _ from hr]
     exact⟨e,hI,.inr ⟨rfl,h⟩⟩
    ·exact h.elim
theorem LJ{Y:Sys}{tm:List (Nat×SV)}{c:aq Y}{o:Oper}{Q:SV->Prop}(h:(mo Y tm c o).aD Q):∃sv,Q sv:=O3 h
theorem LK{Y:Sys}(hY:Laws Y){C:eS Y}(hC:C.Ok){o:Oper}{e:E Y}{k:E Y->af (E Y)}{Q:E Y->Prop}(hb:Y.eM e.c.st)
 (h:(il C o e k).aD Q):∃e',(k e').aD Q∧Y.eM e'.c.st:=by
 unfold il at h
 cases he:gF o.op with
 |true=>
  simp only[he,cond_true,ax]at h
  obtain⟨p,hp,fX⟩:=D4 hY hC hb h
  exact⟨_,hp,fX⟩
 |false=>
  simp only[he,cond_false,ax]at h
  obtain⟨sv,hp⟩:=LJ h
  exact⟨_,hp,hb⟩
theorem gi{Y:Sys}(hY:Laws Y){C:eS Y}(hC:C.Ok){ops:Array Oper}:∀(l:List Oper) (e:E Y) (Q:E Y->Prop),Y.eM e.c.st->(cT C ops l e).aD Q->∃e',Q e'∧Y.eM e'.c.st
 |[],e,Q,hb,h=>⟨e,h,hb⟩
 |o::rest,e,Q,hb,h=>by
  have step:∀e0:E Y,Y.eM e0.c.st->(il C o e0 (cT C ops rest)).aD Q->∃e',Q e'∧Y.eM e'.c.st:=fun e0 zM h0=>by
   obtain⟨e1,h1,cz⟩:=LK hY hC zM h0
   exact gi hY hC rest e1 Q cz h1
  have skip:∀e0:E Y,Y.eM e0.c.st->(nz o e0 (cT C ops rest)).aD Q->∃e',Q e'∧Y.eM e'.c.st:=fun e0 zM h0=>by
   unfold nz at h0
   exact gi hY hC rest ⟨e0.c,oH o.dst (.val (.tuple #[])) e0.tm⟩ Q zM h0
  simp only[cT]at h
  cases hd:iF C.N o.dst with
  |false=>simp only[hd,cond_false,af.aD]at h
  |true=>
   simp only[hd,cond_true]at h
   split at h
   ·exact step _ hb h
   ·rename_i j want _
    split at h
    ·exact h.elim
    ·split at h
     ·cases want with
      |true=>exact step _ hb h
      |false=>exact skip _ hb h
     ·cases want with
      |true=>exact skip _ hb h
      |false=>exact step _ hb h
     ·rename_i d _ _ b _
      cases b with
      |true=>
       have h1:=h.1 rfl
       cases want with
       |true=>exact step _ (show Y.eM (E.mk e.c ((d,.tt)::e.tm)).c.st from hb) h1
       |false=>exact skip _ (show Y.eM (E.mk e.c ((d,.tt)::e.tm)).c.st from hb) h1
      |false=>
       have h1:=h.2 rfl
       cases want with
       |true=>exact skip _ (show Y.eM (E.mk e.c ((d,.ff)::e.tm)).c.st from hb) h1
       |false=>exact step _ (show Y.eM (E.mk e.c ((d,.ff)::e.tm)).c.st from hb) h1
     ·exact skip _ hb h
     ·exact h.elim
theorem mN{Y:Sys}(hY:Laws Y){C:eS Y}(hC:C.Ok){ops:Array Oper}{Qx:Exit->Act->World->Prop}:∀(l:List Oper) (e:E Y) (bl:List Nat) (a:Act) (w:World) (Q:E Y->Prop),
 cL Y C.N e bl a w->(cT C ops l e).aD Q->
 (∀e' dw a' w',Q e'->cL Y C.N e' dw a' w'->Ext Y bl dw w w'->Qx .normal a' w')->((∃e',Q e'∧Y.eM e'.c.st)->LetsOut Qx)->wpList Y.P ops Qx l a w
 |[],e,bl,a,w,Q,hI,h,hQ,hOut=>hQ _ _ _ _ h hI (Ext.refl _ _ _)
 |o::rest,e,bl,a,w,Q,hI,h,hQ,hOut=>by
  obtain⟨hd,e',gy,D5⟩:=vm hI h
  unfold wpList
  rcases D5 with⟨hw,h1⟩|⟨hw,h1⟩
  ·rw[if_pos hw]
   refine .inl (HA hY hC gy hd h1 (fun e2 bl2 a2 w2 hq Ux bN=> ?_) (fun⟨e2,hq,hb⟩=>hOut (gi hY hC rest e2 Q hb hq)))
   exact mN hY hC rest e2 bl2 a2 w2 Q Ux hq (fun e3 bl3 a3 w3 hq3 hI3 adm=>hQ _ _ _ _ hq3 hI3 (bN.trans adm)) hOut
  ·rw[if_neg (by simp[hw])]
   exact mN hY hC rest _ bl _ w Q (gy.skip hd) h1 hQ hOut
theorem oR{Y:Sys}(hY:Laws Y){C:eS Y}{ops:Array Oper}:∀(l:List Oper) (e:E Y) (bl:List Nat) (a:Act) (w:World) (Q:E Y->Prop),
 cL Y C.N e bl a w->(∀o∈l,gF o.op=false)->(cT C ops l e).aD Q->∀(L:Act->Prop),(∀e' a',Q e'->cL Y C.N e' bl a' w->L a')->wpStill Y.P ops w L l a
 |[],e,bl,a,w,Q,hI,_,h,L,hL=>hL _ _ h hI
 |o::rest,e,bl,a,w,Q,hI,dH,h,L,hL=>by
  obtain⟨hd,e',gy,D5⟩:=vm hI h
  unfold wpStill
  rcases D5 with⟨hw,h1⟩|⟨hw,h1⟩
  ·rw[if_pos hw]
   unfold il at h1
   simp only[dH o (List.mem_cons_self ..),cond_false,ax]at h1
   obtain⟨sv,v,hq,eg,hrel⟩:=qM hY gy.core gy.rel h1
   unfold Oper.still
   rw[eg,Oper.stillUpon_value]
   exact oR hY rest _ bl _ w Q (gy.put (d:=false) hd gy.core hrel (List.prefix_refl _) (fun _ _=>rfl)) (fun o ho=>dH o (List.mem_cons_of_mem _ ho)) hq L hL
  ·rw[if_neg (by simp[hw])]
   exact oR hY rest _ bl _ w Q (gy.skip hd) (fun o ho=>dH o (List.mem_cons_of_mem _ ho)) h1 L hL
theorem qw:∀(l:List Oper),∀o∈l.take (iS l),gF o.op=false
 |[],o,h=>by simp[iS]at h
 |[x],o,h=>by simp[iS]at h
 |x::y::r,o,h=>by
  simp only[iS]at h
  cases hx:gF x.op with
  |true=>simp[hx]at h
  |false=>
   simp only[hx,cond_false,List.take_succ_cons,List.mem_cons]at h
   rcases h with h|h
   ·subst h;exact hx
   ·exact qw (y::r) o h
theorem pI{o:Op}(h:bH o=true):gF o=true:=by
 unfold bH at h
 split at h
 ·rfl
 ·rfl
 ·cases h
def af.to{α:Type}:af α->α->Prop
 | .ae a,b=>a=b
 | .aj c t e,b=>(c=true->t.to b)∧(c=false->e.to b)
 | .aY p k,b=>p∧k.to b
 | .any _ _,_=>False
 | .fail,_=>False
theorem HC{α:Type}{t:af α}{b:α}(h:t.to b):t.aD (·=b):=by
 induction t with
 |ae a=>exact h
 |aj c t e iQ jH=>exact⟨fun hc=>iQ (h.1 hc),fun hc=>jH (h.2 hc)⟩
 |aY p k ih=>exact⟨h.1,ih h.2⟩
 |any t e _ _=>exact h.elim
 |fail=>exact h.elim
theorem Pe{α:Type}{t:af α}{Q:α->Prop}(hn:t.cg)(h:t.aD Q):∃b,t.to b∧Q b:=by
 induction t with
 |ae a=>exact⟨a,rfl,h⟩
 |aj c t e iQ jH=>
  cases c with
  |true=>obtain⟨b,h1,h2⟩:=iQ hn.1 (h.1 rfl);exact⟨b,⟨fun _=>h1,fun hc=>(by cases hc)⟩,h2⟩
  |false=>obtain⟨b,h1,h2⟩:=jH hn.2 (h.2 rfl);exact⟨b,⟨fun hc=>(by cases hc),fun _=>h1⟩,h2⟩
 |aY p k ih=>obtain⟨b,h1,h2⟩:=ih hn h.2;exact⟨b,⟨h.1,h1⟩,h2⟩
 |any t e _ _=>exact hn.elim
 |fail=>exact h.elim
theorem ek{α β:Type}{t:af α}{f:α->af β}(hn:t.cg)(hf:∀a,(f a).cg):(t.bind f).cg:=by
 induction t with
 |ae a=>exact hf a
 |aj c t e iQ jH=>exact⟨iQ hn.1,jH hn.2⟩
 |aY p k ih=>exact ih hn
 |any t e _ _=>exact hn.elim
 |fail=>trivial
theorem D6{Y:Sys}{c:aq Y}{t:af (SV×aq Y)}(h:t.quiet c):t.cg:=by
 induction t with
 |ae a=>trivial
 |aj c t e iQ jH=>exact⟨iQ h.1,jH h.2⟩
 |aY p k ih=>exact ih h
 |any t e _ _=>exact h.elim
 |fail=>trivial
theorem Pf{Y:Sys}{c:aq Y}{t:af (SV×aq Y)}{p:SV×aq Y}(h:t.quiet c)(ht:t.to p):p.2=c:=by
 induction t with
 |ae a=>rw[←show a=p from ht];exact h
 |aj b t e iQ jH=>cases b;exact jH h.2 (ht.2 rfl);exact iQ h.1 (ht.1 rfl)
 |aY p k ih=>exact ih h ht.2
 |any t e _ _=>exact h.elim
 |fail=>exact ht.elim
theorem rZ{α β:Type}{t:af α}{f:α->β}{b:β}(h:(t.bind fun a=> .ae (f a)).to b):∃a,t.to a∧f a=b:=by
 induction t with
 |ae a=>exact⟨a,rfl,h⟩
 |aj c t e iQ jH=>
  cases c with
  |true=>obtain⟨a,h1,h2⟩:=iQ (h.1 rfl);exact⟨a,⟨fun _=>h1,fun hc=>(by cases hc)⟩,h2⟩
  |false=>obtain⟨a,h1,h2⟩:=jH (h.2 rfl);exact⟨a,⟨fun hc=>(by cases hc),fun _=>h1⟩,h2⟩
 |aY p k ih=>obtain⟨a,h1,h2⟩:=ih h.2;exact⟨a,⟨h.1,h1⟩,h2⟩
 |any t e _ _=>exact h.elim
 |fail=>exact h.elim
theorem D7(op:BinOp)(k:IntKind)(a b:Int):(wG op k a b).cg:=by
 cases op<;>trivial
theorem LL(op:BinOp)(x y:SV):(DY op x y).cg:=by
 unfold DY
 split
 ·rename_i k a k' b
  cases pH op
  ·simp only[cond_false]
   by_cases h:k=k'
   ·simp only[h,decide_true,cond_true];exact D7 _ _ _ _
   ·simp only[h,decide_false,cond_false];trivial
  ·trivial
 ·cases op<;>trivial
 ·trivial
theorem Pg(op:BinOp)(yn:Bool)(x y:SV):(O6 op yn x y).cg:=by
 unfold O6
 split<;>first|trivial|(cases yn<;>trivial)|(rename_i i j;cases Nat.beq i j<;>trivial)
theorem HD(Y:Sys)(tm:List (Nat×SV))(c:aq Y)(o:Oper):(mo Y tm c o).cg:=by
 unfold mo
 split
 ·trivial
 ·trivial
 ·split<;>first|trivial|exact⟨trivial,trivial⟩
 ·split<;>trivial
 ·split
  ·split<;>trivial
  ·trivial
 ·rename_i t x _
  cases Y.one t
  ·trivial
  ·simp only[cond_true]
   split
   ·split<;>trivial
   ·split<;>trivial
   ·trivial
   ·split<;>trivial
   ·trivial
 ·rename_i op t x y yt _
  cases Y.UK t
  ·exact LL _ _ _
  ·exact Pg _ _ _ _
 ·split<;>trivial
 ·rename_i s d x _
  split
  ·split
   ·split<;>trivial
   ·trivial
  ·cases Y.isStr s&&Y.isStr d<;>trivial
  ·cases Y.lL s&&Y.isStr d<;>trivial
  ·trivial
 ·split
  ·split<;>trivial
  ·split<;>trivial
  ·trivial
 ·rename_i t x i _
  cases Y.isStr t
  ·trivial
  ·simp only[cond_true];split<;>trivial
 ·rename_i t x i _
  cases Y.lL t
  ·trivial
  ·simp only[cond_true];split<;>trivial
 ·rename_i t x lo hi _
  cases Y.lL t
  ·cases Y.isStr t
   ·trivial
   ·simp only[cond_true,cond_false]
    split
    ·split<;>trivial
    ·trivial
  ·simp only[cond_true];split<;>trivial
 ·rename_i t x _
  cases Y.Ap t<;>trivial
 ·split
  ·rename_i x t _ _
   split
   ·cases Y.isStr t<;>trivial
   ·cases Y.lL t<;>trivial
   ·cases Y.lL t<;>trivial
   ·trivial
  ·trivial
 ·trivial
theorem pure_congr{Y:Sys}{tm G6:List (Nat×SV)}{c c':aq Y}{o:Oper}(h:∀x∈qN o.op,fj G6 x=fj tm x)(hc:c'=c∨mq o.op=false):mo Y G6 c' o=mo Y tm c o:=by
 have hl:mq o.op=true->c'=c:=fun hl=>by
  rcases hc with hc|hc
  ·exact hc
  ·rw[hl]at hc;cases hc
 unfold mo
 split<;>rename_i heq<;>(try rw[heq]at h hl)<;>(try simp only[qN,List.mem_cons,List.not_mem_nil,or_false,forall_eq,forall_eq_or_imp,List.mem_append]at h)<;>(try simp only[heq])
 ·rw[h]
 ·rw[h]
 ·rw[h.1,h.2.1,h.2.2]
 ·rw[h]
 ·rw[h]
 ·rw[h,hl rfl]
 ·rw[h.1,h.2]
 ·rw[h]
 ·rw[h]
 ·rw[h]
 ·rw[h.1,h.2]
 ·rw[h.1,h.2]
 ·rename_i t x lo hi
  have h1:lo.map (fj G6)=lo.map (fj tm):=by
   cases lo with
   |none=>rfl
   |some l=>simp only[Option.map_some];rw[h.2 l (.inl (by simp))]
  have h2:hi.map (fj G6)=hi.map (fj tm):=by
   cases hi with
   |none=>rfl
   |some l=>simp only[Option.map_some];rw[h.2 l (.inr (by simp))]
  rw[h.1,h1,h2]
 ·rename_i args argTypes
  split
  ·rename_i x t hx ht
   rw[hx]at h
   rw[h x (.inr (by simp))]
  ·rfl
theorem LM{Y:Sys}{C:eS Y}{tm G6:List (Nat×SV)}{c:aq Y}{o:Oper}(h:∀x∈qN o.op,fj G6 x=fj tm x)(hk:(oO C.still o.op||bH o.op)=true):mK C G6 c o=mK C tm c o:=by
 unfold mK
 split<;>rename_i heq<;>(try rw[heq]at h hk)<;>(try simp only[qN,List.mem_cons,List.not_mem_nil,or_false,forall_eq,forall_eq_or_imp,List.mem_append]at h)<;>(try simp only[heq])
 ·rw[h.1,h.2]
 ·rename_i t len parts
  have h':∀p∈parts.toList,fj G6 p.2=fj tm p.2:=fun p hp=>h _ (List.mem_map.2 ⟨p,hp,rfl⟩)
  split
  ·rename_i x hx
   rw[hx]at h'
   rw[h' (0,x) (by simp)]
  ·rename_i x y hx
   rw[hx]at h'
   rw[h' (0,x) (by simp),h' (1,y) (by simp)]
  ·rfl
 ·rename_i f args OR
  have h1:args.toList.map (fj G6)=args.toList.map (fj tm):=List.map_congr_left fun x hx=>h.2 x hx
  rw[h1]
  cases f with
  |func n=>rfl
  |_=>simp[oO,bH]at hk
 ·simp[oO,bH]at hk
 ·rename_i r name args OR
  have h1:args.toList.map (fj G6)=args.toList.map (fj tm):=List.map_congr_left fun x hx=>h.2 x hx
  rw[h1,h.1]
theorem LN{Y:Sys}{C:eS Y}(hC:C.Ok){tm:List (Nat×SV)}{c:aq Y}{o:Oper}(hk:(oO C.still o.op||bH o.op)=true):(mK C tm c o).cg:=by
 unfold mK
 split<;>rename_i heq<;>(try rw[heq]at hk)
 ·rename_i t x y
  cases Y.one t
  ·trivial
  ·simp only[cond_true]
   split
   ·split<;>trivial
   ·split<;>trivial
   ·split<;>trivial
   ·trivial
 ·simp[oO,bH]at hk
 ·rename_i t len parts
  cases Y.vg t
  ·trivial
  ·simp only[cond_true]
   split
   ·rename_i x _
    cases jV (fj tm x)<;>trivial
   ·rename_i x y _
    cases jV (fj tm x)&&jV (fj tm y)<;>trivial
   ·trivial
 ·rename_i f args OR
  cases f with
  |func n=>
   simp only[oO,bH,Bool.or_false]at hk
   simp only[]
   split
   ·rename_i s hs
    exact ek (D6 ((hC.still _ (gU hs) hk).2 _ _)) fun _=>trivial
   ·trivial
  |_=>simp[oO,bH]at hk
 ·simp[oO,bH]at hk
 ·split
  ·split
   ·rename_i nm s hs
    exact ek ((hC.rX _ (gU hs)).2.2.1 _ _) fun _=>trivial
   ·trivial
  ·trivial
 ·trivial
theorem xJ{Y:Sys}{C:eS Y}(hC:C.Ok){tm:List (Nat×SV)}{c c':aq Y}{o:Oper}{sv:SV}{d:Bool}(hk:(oO C.still o.op||bH o.op)=true)(h:(mK C tm c o).to (sv,c',d)):
 d=false∧(bH o.op=false->c'=c):=by
 unfold mK at h
 split at h<;>rename_i heq<;>(try rw[heq]at hk)<;>(try rw[heq])
 ·rename_i t x y
  refine⟨?_,fun hs=>by simp[bH]at hs⟩
  cases ht:Y.one t
  ·simp only[ht,cond_false,af.to]at h
  ·simp only[ht,cond_true]at h
   split at h
   ·split at h
    ·simp only[af.to,Prod.mk.injEq]at h;exact h.2.2.symm
    ·exact h.elim
   ·split at h
    ·simp only[af.to,Prod.mk.injEq]at h;exact h.2.2.symm
    ·exact h.elim
   ·split at h
    ·simp only[af.to,Prod.mk.injEq]at h;exact h.2.2.2.symm
    ·exact h.elim
   ·exact h.elim
 ·simp[oO,bH]at hk
 ·rename_i t len parts
  cases ht:Y.vg t
  ·simp only[ht,cond_false,af.to]at h
  ·simp only[ht,cond_true]at h
   split at h
   ·rename_i x _
    cases hi:jV (fj tm x)
    ·simp only[hi,cond_false,af.to]at h
    ·simp only[hi,cond_true,af.to,Prod.mk.injEq]at h;exact⟨h.2.2.symm,fun _=>h.2.1.symm⟩
   ·rename_i x y _
    cases hi:jV (fj tm x)&&jV (fj tm y)
    ·simp only[hi,cond_false,af.to]at h
    ·simp only[hi,cond_true,af.to,Prod.mk.injEq]at h;exact⟨h.2.2.symm,fun _=>h.2.1.symm⟩
   ·exact h.elim
 ·rename_i f args OR
  cases f with
  |func n=>
   simp only[oO,bH,Bool.or_false]at hk
   simp only[]at h
   split at h
   ·rename_i s hs
    obtain⟨hd,hq⟩:=hC.still _ (gU hs) hk
    obtain⟨p,h1,h2⟩:=rZ h
    simp only[Prod.mk.injEq]at h2
    refine⟨?_,fun _=> ?_⟩
    ·rw[←h2.2.2];exact hd
    ·rw[←h2.2.1];exact Pf (hq _ _) h1
   ·exact h.elim
  |_=>simp[oO,bH]at hk
 ·simp[oO,bH]at hk
 ·refine⟨?_,fun hs=>by simp[bH]at hs⟩
  split at h
  ·split at h
   ·rename_i nm s hs
    obtain⟨_,h⟩:=h
    obtain⟨p,h1,h2⟩:=rZ h
    simp only[Prod.mk.injEq]at h2
    rw[←h2.2.2];exact(hC.rX _ (gU hs)).2.1
   ·exact h.elim
  ·exact h.elim
 ·exact h.elim
def ofB:Bool->SV
 |true=> .tt
 |false=> .ff
def kS{Y:Sys}(ops:Array Oper)(o:Oper)(e e0:E Y)(x:Bool):Prop:=
 match o.guard with
 |none=>e0=e∧x=true
 |some (j,want)=>∃d,(ops[j]?).bind (·.dst)=some d∧
  ((∃b,look e.tm d=ofB b∧e0=e∧x=(b==want))∨(∃b,look e.tm d= .val (.bool b)∧e0=⟨e.c,(d,ofB b)::e.tm⟩∧x=(b==want))∨(∃l,look e.tm d= .val (.tuple l)∧e0=e∧x=false))
def HF{Y:Sys}(C:eS Y)(o:Oper)(e e':E Y):Prop:=
 (gF o.op=false∧∃sv,(mo Y e.tm e.c o).to sv∧e'=⟨e.c,oH o.dst sv e.tm⟩)∨
 (gF o.op=true∧(oO C.still o.op||bH o.op)=true∧∃sv c',(mK C e.tm e.c o).to (sv,c',false)∧e'=⟨c',oH o.dst sv e.tm⟩)
def gJ{Y:Sys}(C:eS Y)(ops:Array Oper)(o:Oper)(e e':E Y):Prop:=
 iF C.N o.dst=true∧∃e0 x,kS ops o e e0 x∧((x=true∧HF C o e0 e')∨(x=false∧e'=⟨e0.c,oH o.dst (.val (.tuple #[])) e0.tm⟩))
def okA(still:List Nat)(o:Oper):Bool:= !gF o.op||oO still o.op||bH o.op
theorem D8{Y:Sys}{C:eS Y}(hC:C.Ok){o:Oper}{e:E Y}{k:E Y->af (E Y)}{Q:E Y->Prop}(ia:okA C.still o=true)(h:(il C o e k).aD Q):∃e',HF C o e e'∧(k e').aD Q:=by
 unfold il at h
 cases he:gF o.op with
 |true=>
  simp only[he,cond_true,ax]at h
  have hk:(oO C.still o.op||bH o.op)=true:=by simpa[okA,he] using ia
  obtain⟨⟨sv,c',d⟩,h1,h2⟩:=Pe (LN hC hk) h
  obtain⟨hd,_⟩:=xJ hC hk h1
  subst hd
  exact⟨_,.inr ⟨he,hk,sv,c',h1,rfl⟩,h2⟩
 |false=>
  simp only[he,cond_false,ax]at h
  obtain⟨sv,h1,h2⟩:=Pe (HD _ _ _ _) h
  exact⟨_,.inl ⟨he,sv,h1,rfl⟩,h2⟩
theorem D9{Y:Sys}{C:eS Y}(hC:C.Ok){ops:Array Oper}{o:Oper}{rest:List Oper}{e:E Y}{Q:E Y->Prop}(ia:okA C.still o=true)(h:(cT C ops (o::rest) e).aD Q):
 ∃e',gJ C ops o e e'∧(cT C ops rest e').aD Q:=by
 simp only[cT]at h
 cases hd:iF C.N o.dst with
 |false=>simp only[hd,cond_false,af.aD]at h
 |true=>
  simp only[hd,cond_true]at h
  have xK:∀e0 x,kS ops o e e0 x->x=true->(il C o e0 (cT C ops rest)).aD Q->∃e',gJ C ops o e e'∧(cT C ops rest e').aD Q:=fun e0 x hr hx hs=>by
   obtain⟨e',h1,h2⟩:=D8 hC ia hs
   exact⟨e',⟨hd,e0,x,hr,.inl ⟨hx,h1⟩⟩,h2⟩
  have doSkip:∀e0 x,kS ops o e e0 x->x=false->(nz o e0 (cT C ops rest)).aD Q->∃e',gJ C ops o e e'∧(cT C ops rest e').aD Q:=fun e0 x hr hx hs=>
   ⟨_,⟨hd,e0,x,hr,.inr ⟨hx,rfl⟩⟩,hs⟩
  cases hg:o.guard with
  |none=>
   simp only[hg]at h
   exact xK e true (by simp[kS,hg]) rfl h
  |some p=>
   obtain⟨j,want⟩:=p
   simp only[hg]at h
   split at h
   ·exact h.elim
   ·rename_i d hj
    have mk1:∀b,look e.tm d=ofB b->kS ops o e e (b==want):=fun b hb=>by unfold kS;rw[hg];exact⟨d,hj,.inl ⟨b,hb,rfl,rfl⟩⟩
    have mk2:∀b,look e.tm d= .val (.bool b)->kS ops o e ⟨e.c,(d,ofB b)::e.tm⟩ (b==want):=fun b hb=>by unfold kS;rw[hg];exact⟨d,hj,.inr (.inl ⟨b,hb,rfl,rfl⟩)⟩
    split at h<;>rename_i hk
    ·cases want with
     |true=>exact xK _ _ (mk1 true hk) rfl h
     |false=>exact doSkip _ _ (mk1 true hk) rfl h
    ·cases want with
     |true=>exact doSkip _ _ (mk1 false hk) rfl h
     |false=>exact xK _ _ (mk1 false hk) rfl h
    ·rename_i b
     cases b with
     |true=>
      have h1:=h.1 rfl
      cases want with
      |true=>exact xK _ _ (mk2 true hk) rfl h1
      |false=>exact doSkip _ _ (mk2 true hk) rfl h1
     |false=>
      have h1:=h.2 rfl
      cases want with
      |true=>exact doSkip _ _ (mk2 false hk) rfl h1
      |false=>exact xK _ _ (mk2 false hk) rfl h1
    ·rename_i l
     exact doSkip e false (by unfold kS;rw[hg];exact⟨d,hj,.inr (.inr ⟨l,hk,rfl,rfl⟩)⟩) rfl h
    ·exact h.elim
theorem vq{Y:Sys}{C:eS Y}(hC:C.Ok){ops:Array Oper}:∀(l:List Oper) (e:E Y) (Q:E Y->Prop),(∀o∈l,okA C.still o=true)->(cT C ops l e).aD Q->
 ∃es:Nat->E Y,es 0=e∧Q (es l.length)∧∀i o,l[i]? =some o->gJ C ops o (es i) (es (i+1))
 |[],e,Q,_,h=>⟨fun _=>e,rfl,h,fun i o ho=>by simp at ho⟩
 |o::rest,e,Q,ia,h=>by
  obtain⟨e',h1,h2⟩:=D9 hC (ia o (List.mem_cons_self ..)) h
  obtain⟨es,h3,h4,h5⟩:=vq hC rest e' Q (fun o ho=>ia o (List.mem_cons_of_mem _ ho)) h2
  refine⟨fun i=>match i with|0=>e|i+1=>es i,rfl,h4,fun i o' ho=> ?_⟩
  cases i with
  |zero=>
   simp only[List.getElem?_cons_zero,Option.some.injEq]at ho
   subst ho
   show gJ C ops o e (es 0)
   rw[h3];exact h1
  |succ i=>exact h5 i o' (by simpa using ho)
theorem mO{Y:Sys}{ops:Array Oper}{o:Oper}{e e0:E Y}{x:Bool}(h:kS ops o e e0 x):e0.c=e.c:=by
 unfold kS at h
 split at h
 ·rw[h.1]
 ·obtain⟨d,_,⟨b,_,h,_⟩|⟨b,_,h,_⟩|⟨l,_,h,_⟩⟩:=h<;>rw[h]
theorem Cd{Y:Sys}{ops:Array Oper}{o:Oper}{e e0:E Y}{x:Bool}(h:kS ops o e e0 x)(t:Nat)(bl:List Nat)(w:World)(v:Value):Rel Y bl w (look e.tm t) v->Rel Y bl w (look e0.tm t) v:=by
 intro hr
 unfold kS at h
 split at h
 ·rw[h.1];exact hr
 ·obtain⟨d,_,⟨b,_,h,_⟩|⟨b,hb,h,_⟩|⟨l,_,h,_⟩⟩:=h
  ·rw[h];exact hr
  ·rw[h,aF]
   by_cases ht:t=d
   ·rw[if_pos ht]
    subst ht
    rw[hb]at hr
    cases b<;>exact hr
   ·rw[if_neg ht];exact hr
  ·rw[h];exact hr
theorem HG{Y:Sys}{ops:Array Oper}{o:Oper}{e e0:E Y}{x:Bool}(h:kS ops o e e0 x){bl:List Nat}{w:World}{a:Act}
 (hr:∀j want d,o.guard=some (j,want)->(ops[j]?).bind (·.dst)=some d->Rel Y bl w (look e.tm d) (a.tmps.getD d undef)):Region.wanted o (yielded ops a.tmps)=x:=by
 unfold kS at h
 split at h
 ·rename_i hg
  rw[h.2];simp[Region.wanted,hg]
 ·rename_i j want hg
  obtain⟨d,hj,h⟩:=h
  have OS:=hr j want d hg hj
  have hy:=xI (a:=a) hj
  have hw:Region.wanted o (yielded ops a.tmps)=((yielded ops a.tmps j)==some want):=by simp only[Region.wanted,hg]
  rw[hw,hy]
  rcases h with⟨b,hb,_,hx⟩|⟨b,hb,_,hx⟩|⟨l,hb,_,hx⟩
  ·rw[hb]at OS
   have:a.tmps.getD d undef= .bool b:=by cases b<;>exact OS
   rw[this,hx];cases b<;>cases want<;>rfl
  ·rw[hb]at OS
   rw[show a.tmps.getD d undef= .bool b from OS,hx];cases b<;>cases want<;>rfl
  ·rw[hb]at OS
   rw[show a.tmps.getD d undef= .tuple l from OS,hx];rfl
theorem oS{d:Option Tmp}{sv:SV}{tm:List (Nat×SV)}{t:Nat}(h:d≠some t):look (oH d sv tm) t=look tm t:=by
 cases d with
 |none=>rfl
 |some d=>
  simp only[oH,aF]
  rw[if_neg (fun e=>h (by rw[e]))]
theorem Ph{Y:Sys}{C:eS Y}{ops:Array Oper}{o:Oper}{e e':E Y}(h:gJ C ops o e e'){t:Nat}(ht:o.dst≠some t){bl:List Nat}{w:World}{v:Value}(hr:Rel Y bl w (look e.tm t) v):Rel Y bl w (look e'.tm t) v:=by
 obtain⟨_,e0,x,uh,⟨_,hx⟩|⟨_,rfl⟩⟩:=h
 ·have:=Cd uh t bl w v hr
  rcases hx with⟨_,sv,_,rfl⟩|⟨_,_,sv,c',_,rfl⟩
  ·rw[oS ht];exact this
  ·rw[oS ht];exact this
 ·rw[oS ht];exact Cd uh t bl w v hr
theorem LO{Y:Sys}{C:eS Y}(hC:C.Ok){ops:Array Oper}{o:Oper}{e e':E Y}(h:gJ C ops o e e')(hs:bH o.op=false):e'.c=e.c:=by
 obtain⟨_,e0,x,uh,⟨_,hx⟩|⟨_,rfl⟩⟩:=h
 ·rw[←mO uh]
  rcases hx with⟨_,sv,_,rfl⟩|⟨_,hk,sv,c',h1,rfl⟩
  ·rfl
  ·exact(xJ hC hk h1).2 hs
 ·show e0.c=e.c;exact mO uh
theorem Pj{Y:Sys}(hY:Laws Y){C:eS Y}(hC:C.Ok){ops:Array Oper}{o:Oper}{e e':E Y}(h:gJ C ops o e e')(hb:Y.eM e.c.st):Y.eM e'.c.st:=by
 obtain⟨_,e0,x,uh,⟨_,hx⟩|⟨_,rfl⟩⟩:=h
 ·rw[←mO uh]at hb
  rcases hx with⟨_,sv,_,rfl⟩|⟨_,hk,sv,c',h1,rfl⟩
  ·exact hb
  ·obtain⟨p,hp,fX⟩:=D4 hY hC hb (HC h1)
   rw[hp]at fX
   exact fX
 ·show Y.eM e0.c.st;rw[mO uh];exact hb
def mask:List Nat->List (Nat×SV)->List (Nat×SV)
 |[],tm=>tm
 |t::r,tm=>(t,.jk)::mask r tm
theorem Av(bad:List Nat)(tm:List (Nat×SV))(t:Nat):look (mask bad tm) t=if t∈bad then .jk else look tm t:=by
 induction bad with
 |nil=>simp[mask]
 |cons b r ih=>
  simp only[mask,aF,ih,List.mem_cons]
  by_cases h:t=b
  ·simp[h]
  ·simp[h]
structure UM(still:List Nat)(ops:Array Oper)(n i:Nat)(o:Oper):Prop where
 ok:okA still o=true
 lt:∀e∈o.after,Region.binds .any e=true->e.on<i
 use:∀t∈tmpsOf ops o,∀j oj,j<n->ops[j]? =some oj->oj.dst=some t->j<i∧waits ops i j=true
 dst:∀j oj d,j<n->j≠i->ops[j]? =some oj->o.dst=some d->oj.dst≠some d
 str:∀j oj,j<n->j≠i->ops[j]? =some oj->bH o.op=true->(mq oj.op||gF oj.op)=true->(i<j->nA ops 4 j i=true)∧(j<i->nA ops 4 i j=true)
theorem r_{a b:Nat}:Nat.beq a b=true↔a=b:=⟨Nat.eq_of_beq_eq_true,fun h=>by subst h;simp⟩
theorem Ax{o:Oper}{t:Nat}:JT o t=true↔o.dst=some t:=by
 unfold JT
 cases o.dst with
 |none=>simp
 |some d=>simp[r_]
theorem atF{still:List Nat}{ops:Array Oper}{n i:Nat}(h:O9 still ops n i=true):∃o,ops[i]? =some o∧UM still ops n i o:=by
 unfold O9 at h
 cases ho:ops[i]? with
 |none=>simp[ho]at h
 |some o=>
  simp only[ho,Bool.and_eq_true]at h
  obtain⟨⟨⟨h1,h2⟩,h3⟩,h4⟩:=h
  refine⟨o,rfl,⟨h1,fun e he hb=> ?_,fun t ht j oj hj hoj hd=> ?_,fun j oj d hj dH hoj hd Z3=> ?_,fun j oj hj dH hoj hs hl=> ?_⟩⟩
  ·have:=Array.all_eq_true_iff_forall_mem.1 h2 e he
   simp only[hb,Bool.not_true,Bool.false_or]at this
   exact Nat.le_of_ble_eq_true this
  ·have:=List.all_eq_true.1 (List.all_eq_true.1 h3 t ht) j (List.mem_range.2 hj)
   simp only[hoj,Bool.or_eq_true,Bool.not_eq_true',Bool.and_eq_true]at this
   rcases this with h|h
   ·rw[Ax.2 hd]at h;cases h
   ·exact⟨Nat.le_of_ble_eq_true h.1,h.2⟩
  ·have:=List.all_eq_true.1 h4 j (List.mem_range.2 hj)
   simp only[hoj,Bool.or_eq_true,Bool.and_eq_true]at this
   rcases this with h|⟨h,_⟩
   ·exact dH (r_.1 h)
   ·simp only[hd,Ax.2 Z3]at h;cases h
  ·have:=List.all_eq_true.1 h4 j (List.mem_range.2 hj)
   simp only[hoj,Bool.or_eq_true,Bool.and_eq_true]at this
   rcases this with h|⟨_,h⟩
   ·exact absurd (r_.1 h) dH
   ·simp only[hs,hl,Bool.true_and,Bool.not_true,Bool.false_eq_true,false_or]at h
    refine⟨fun bz=> ?_,fun bz=> ?_⟩
    ·have:Nat.blt i j=true:=Nat.ble_eq_true_of_le bz
     simpa[this] using h
    ·have:Nat.blt i j=false:=by
      cases hb:Nat.blt i j with
      |false=>rfl
      |true=>have:=Nat.le_of_ble_eq_true hb;omega
     simpa[this] using h
theorem nE{ops:Array Oper}{i j:Nat}{o:Oper}(ho:ops[i]? =some o)(h:waits ops i j=true):∃e∈o.after,Region.binds .any e=true∧e.on=j:=by
 unfold waits at h
 simp only[ho]at h
 obtain⟨e,he,hb⟩:=Array.any_eq_true'.1 h
 simp only[Bool.and_eq_true,beq_iff_eq]at hb
 exact⟨e,he,hb.1,hb.2⟩
theorem mr{ops:Array Oper}{n:Nat}{listed:Array Bool}(inv:HeadInv .any ops n listed):∀(f:Nat) {i j:Nat},nA ops f i j=true->listed.getD i false=true->listed.getD j false=true:=by
 have one:∀{i j:Nat},waits ops i j=true->listed.getD i false=true->listed.getD j false=true:=by
  intro i j h hl
  cases ho:ops[i]? with
  |none=>simp[waits,ho]at h
  |some o=>
   obtain⟨e,he,hb,LP⟩:=nE ho h
   have:=inv.closed i o ho hl e he hb
   rw[LP]at this;exact this
 intro f
 induction f with
 |zero=>intro i j h hl;exact one h hl
 |succ f ih=>
  intro i j h hl
  simp only[nA,Bool.or_eq_true]at h
  rcases h with h|h
  ·exact one h hl
  ·obtain⟨k,_,hk⟩:=List.any_eq_true.1 h
   simp only[Bool.and_eq_true]at hk
   exact ih hk.2 (one hk.1 hl)
theorem sa{ops:Array Oper}{n:Nat}{listed:Array Bool}(inv:HeadInv .any ops n listed){f i j:Nat}(h:nA ops f i j=true)(hr:i∈Region.ready .any ops listed):listed.getD j false=true:=by
 obtain⟨_,o,ho,sc⟩:=mem_ready.1 hr
 have one:∀{k:Nat},waits ops i k=true->listed.getD k false=true:=by
  intro k h
  obtain⟨e,he,hb,LP⟩:=nE ho h
  have:=sc e he hb
  rw[LP]at this;exact this
 cases f with
 |zero=>exact one h
 |succ f=>
  simp only[nA,Bool.or_eq_true]at h
  rcases h with h|h
  ·exact one h
  ·obtain⟨k,_,hk⟩:=List.any_eq_true.1 h
   simp only[Bool.and_eq_true]at hk
   exact mr inv f hk.2 (one hk.1)
structure HH{Y:Sys}(C:eS Y)(ops:Array Oper)(n:Nat)(es:Nat->E Y)(listed:Array Bool)(a:Act)(bl:List Nat)(w:World):Prop where
 head:HeadInv .any ops n listed
 defers:a.defers=[]
 size:a.tmps.size=C.N
 core:∃j,j<=n∧(∀s o,s<n->ops[s]? =some o->bH o.op=true->(listed.getD s false=true↔s<j))∧fu Y bl (es j).c w
 tmp:∀i o d,i<n->ops[i]? =some o->listed.getD i false=true->o.dst=some d->Rel Y bl w (look (es (i+1)).tm d) (a.tmps.getD d undef)
 base:∀t,(∀i o,i<n->ops[i]? =some o->o.dst≠some t)->Rel Y bl w (look (es 0).tm t) (a.tmps.getD t undef)
theorem LQ{tm G6:List (Nat×SV)}{x:Operand}(h:∀t,x= .tmp t->look G6 t=look tm t):fj G6 x=fj tm x:=by
 cases x with
 |tmp t=>exact h t rfl
 |_=>rfl
theorem HJ{Y:Sys}(hY:Laws Y){C:eS Y}(hC:C.Ok){o:Oper}{e0 e':E Y}(hx:HF C o e0 e'){G6:List (Nat×SV)}{c0:aq Y}{bl:List Nat}{a:Act}{w:World}
 (Z4:∀x∈qN o.op,fj G6 x=fj e0.tm x)(xL:(mq o.op||gF o.op)=true->c0=e0.c)(hI:fu Y bl c0 w)(hr:∀t,Rel Y bl w (look G6 t) (a.tmps.getD t undef))
 {K:Act->World->Prop}{Qx:Exit->Act->World->Prop}
 (hK:∀sv v dw w' c1,e'.tm=oH o.dst sv e0.tm->Rel Y dw w' sv v->(bH o.op=true->c1=e'.c)->(bH o.op=false->c1=c0)->fu Y dw c1 w'->Ext Y bl dw w w'->
   (∀m,w'.cell? ⟨Y.B,m,none⟩=w.cell? ⟨Y.B,m,none⟩)->K (a.put o.dst v) w')
 (hOut:Y.eM e'.c.st->LetsOut Qx):o.wp Y.P a w K Qx:=by
 rcases hx with⟨he,sv,h1,rfl⟩|⟨he,hk,sv,c',h1,rfl⟩
 ·have hl:c0=e0.c∨mq o.op=false:=by
   cases h:mq o.op with
   |true=>exact .inl (xL (by simp[h]))
   |false=>exact .inr rfl
  rw[←pure_congr Z4 hl]at h1
  obtain⟨sv',v,hq,eg,hrel⟩:=qM hY hI hr (HC h1)
  subst hq
  have bn:bH o.op=false:=by
   cases h:bH o.op with
   |false=>rfl
   |true=>rw[pI h]at he;cases he
  unfold Oper.wp
  rw[eg,Oper.upon_value]
  exact hK sv' v bl w c0 rfl hrel (fun h=>by rw[bn]at h;cases h) (fun _=>rfl) hI (Ext.refl _ _ _) (fun _=>rfl)
 ·have hc:=xL (by simp[he])
  subst hc
  rw[←LM Z4 hk]at h1
  refine Au hY hC hI hr (HC h1) (fun sv' c1 d v dw w' hq hrel hinv bN kk=> ?_) (fun⟨p,hp,hb⟩=>hOut (by rw[hp]at hb;exact hb))
  simp only[Prod.mk.injEq]at hq
  obtain⟨rfl,rfl,rfl⟩:=hq
  refine hK sv' v dw w' c1 rfl hrel (fun _=>rfl) (fun hs=> ?_) hinv bN (kk rfl)
  exact(xJ hC hk h1).2 hs
theorem xM{P:Program}{md:Region.Mode}{ops:Array Oper}{Q:Exit->Act->World->Prop}:∀(k:Nat) (listed:Array Bool) (a:Act) (w:World),wpAny P md ops Q k listed a w->wpAny P md ops Q (k+1) listed a w
 |0,listed,a,w,h=>⟨fun _=>h.2,by rw[h.1];simp⟩
 |k+1,listed,a,w,h=>⟨h.1,fun i hi=>wpOp_mono (fun a' w' h'=>xM k _ a' w' h') (h.2 i hi)⟩
def LR:Nat->Array Bool->Nat
 |0,_=>0
 |n+1,listed=>LR n listed+(if listed.getD n false=true then 0 else 1)
theorem xN{listed:Array Bool}{i:Nat}:∀n,n<=i->LR n (listed.setIfInBounds i true)=LR n listed
 |0,_=>rfl
 |n+1,h=>by
  have ih:=xN (listed:=listed) (i:=i) n (by omega)
  simp only[LR,ih]
  rw[getD_set_ne false (by omega)]
theorem Ce{listed:Array Bool}{i:Nat}(hi:listed.getD i true=false):∀n,i<n->LR n (listed.setIfInBounds i true)+1=LR n listed
 |n+1,h=>by
  have bz:i<listed.size:=by
   rcases Nat.lt_or_ge i listed.size with h|h
   ·exact h
   ·simp[Array.getElem?_eq_none h]at hi
  simp only[LR]
  by_cases qx:i=n
  ·subst qx
   rw[xN i (Nat.le_refl _)]
   have h1:listed.getD i false=false:=getD_both hi
   have h2:(listed.setIfInBounds i true).getD i false=true:=by simp[bz]
   rw[h1,h2];simp
  ·rw[getD_set_ne false qx]
   have:=Ce hi n (by omega)
   omega
theorem D_{listed:Array Bool}:∀n,(∀i,i<n->listed.getD i false=true)->LR n listed=0
 |0,_=>rfl
 |n+1,h=>by simp only[LR,D_ n (fun i hi=>h i (by omega)),h n (by omega)];rfl
theorem UN{listed:Array Bool}{i:Nat}(hi:listed.getD i true=false):∀n,i<n->0<LR n listed:=fun n h=>by have:=Ce hi n h;omega
theorem LU{n m:Nat}{listed:Array Bool}(hs:listed.size=m)(hn:n<=m)(h1:∀i,i<n->listed.getD i false=true)(h2:∀i,n<=i->i<m->listed.getD i true=false):listed=xC n m:=by
 apply Array.ext
 ·simp[xC,hs];omega
 ·intro i hi wb
  simp only[xC,List.getElem_toArray]
  by_cases h:i<n
  ·have:=h1 i h
   simp[hi]at this
   rw[this,List.getElem_append_left (by simpa using h)]
   simp
  ·have:=h2 i (by omega) (by omega)
   simp[hi]at this
   rw[this,List.getElem_append_right (by simpa using h)]
   simp
theorem Cf{Y:Sys}(hY:Laws Y){C:eS Y}(hC:C.Ok){ops:Array Oper}{n:Nat}(oT:∀i,i<n->∃o,ops[i]? =some o∧UM C.still ops n i o){es:Nat->E Y}(pJ:∀i o,i<n->ops[i]? =some o->gJ C ops o (es i) (es (i+1))){t:Nat}{bl:List Nat}{w:World}{v:Value}(i:Nat):∀k,i<=k->k<=n->(∀m o,i<=m->m<k->ops[m]? =some o->o.dst≠some t)->Rel Y bl w (look (es i).tm t) v->Rel Y bl w (look (es k).tm t) v:=by
 intro k
 induction k with
 |zero=>
  intro h _ _ hr
  have:i=0:=by omega
  subst this;exact hr
 |succ k ih=>
  intro h hk hd hr
  by_cases hik:i=k+1
  ·subst hik;exact hr
  ·obtain⟨o,ho,_⟩:=oT k (by omega)
   exact Ph (pJ k o (by omega) ho) (hd k o (by omega) (by omega) ho) (ih (by omega) (by omega) (fun m o hm OT=>hd m o hm (by omega)) hr)
theorem Cg{Y:Sys}(hY:Laws Y){C:eS Y}(hC:C.Ok){ops:Array Oper}{n:Nat}(oT:∀i,i<n->∃o,ops[i]? =some o∧UM C.still ops n i o){es:Nat->E Y}(pJ:∀i o,i<n->ops[i]? =some o->gJ C ops o (es i) (es (i+1)))(i:Nat):∀k,i<=k->k<=n->(∀m o,i<=m->m<k->ops[m]? =some o->bH o.op=false)->(es k).c=(es i).c:=by
 intro k
 induction k with
 |zero=>
  intro h _ _
  have:i=0:=by omega
  subst this;rfl
 |succ k ih=>
  intro h hk hd
  by_cases hik:i=k+1
  ·subst hik;rfl
  ·obtain⟨o,ho,_⟩:=oT k (by omega)
   rw[LO hC (pJ k o (by omega) ho) (hd k o (by omega) (by omega) ho)]
   exact ih (by omega) (by omega) (fun m o hm OT=>hd m o hm (by omega))
theorem Z5{Y:Sys}(hY:Laws Y){C:eS Y}(hC:C.Ok){ops:Array Oper}{n:Nat}(oT:∀i,i<n->∃o,ops[i]? =some o∧UM C.still ops n i o){es:Nat->E Y}(pJ:∀i o,i<n->ops[i]? =some o->gJ C ops o (es i) (es (i+1)))(i:Nat):∀k,i<=k->k<=n->Y.eM (es i).c.st->Y.eM (es k).c.st:=by
 intro k
 induction k with
 |zero=>
  intro h _ hb
  have:i=0:=by omega
  subst this;exact hb
 |succ k ih=>
  intro h hk hb
  by_cases hik:i=k+1
  ·subst hik;exact hb
  ·obtain⟨o,ho,_⟩:=oT k (by omega)
   exact Pj hY hC (pJ k o (by omega) ho) (ih (by omega) (by omega) hb)
theorem JV{Y:Sys}(hY:Laws Y){C:eS Y}(hC:C.Ok){ops:Array Oper}{n:Nat}(oT:∀i,i<n->∃o,ops[i]? =some o∧UM C.still ops n i o){es:Nat->E Y}(pJ:∀i o,i<n->ops[i]? =some o->gJ C ops o (es i) (es (i+1))){listed:Array Bool}{i j:Nat}{o:Oper}(inv:HeadInv .any ops n listed)(hi:i<n)(ho:ops[i]? =some o)(hr:i∈Region.ready .any ops listed)(ht:(mq o.op||gF o.op)=true)(hj:j<=n)
 (hs:∀s o,s<n->ops[s]? =some o->bH o.op=true->(listed.getD s false=true↔s<j)):(es j).c=(es i).c:=by
 obtain⟨hun,o',UO,sc⟩:=mem_ready.1 hr
 have:o'=o:=Option.some.inj (UO.symm.trans ho)
 subst this
 have UP:=getD_both hun
 rcases Nat.le_total j i with hji|hij
 ·refine(Cg hY hC oT pJ j i hji (by omega) (fun m om hm OT HL=> ?_)).symm
  cases bn:bH om.op with
  |false=>rfl
  |true=>
   exfalso
   obtain⟨om',Z6,F⟩:=oT m (by omega)
   have:om'=om:=Option.some.inj (Z6.symm.trans HL)
   subst this
   have hw:=(F.str i o' hi (by omega) ho bn ht).1 OT
   have:=sa inv hw hr
   have:=(hs m om' (by omega) HL bn).1 this
   omega
 ·refine Cg hY hC oT pJ i j hij hj (fun m om hm OT HL=> ?_)
  cases bn:bH om.op with
  |false=>rfl
  |true=>
   exfalso
   have hl:=(hs m om (by omega) HL bn).2 OT
   by_cases hmi:m=i
   ·subst hmi;rw[UP]at hl;cases hl
   ·obtain⟨om',Z6,F⟩:=oT m (by omega)
    have:om'=om:=Option.some.inj (Z6.symm.trans HL)
    subst this
    have hw:=(F.str i o' hi (fun e=>hmi e.symm) ho bn ht).2 (by omega)
    have:=mr inv 4 hw hl
    rw[UP]at this;cases this
theorem Pk{Y:Sys}(hY:Laws Y){C:eS Y}(hC:C.Ok){ops:Array Oper}{n:Nat}(oT:∀i,i<n->∃o,ops[i]? =some o∧UM C.still ops n i o){es:Nat->E Y}(pJ:∀i o,i<n->ops[i]? =some o->gJ C ops o (es i) (es (i+1))){listed:Array Bool}{a:Act}{bl:List Nat}{w:World}(inv:HH C ops n es listed a bl w){i:Nat}(hi:i<n)(hr:i∈Region.ready .any ops listed){Qx:Exit->Act->World->Prop}(hOut:Y.eM (es n).c.st->LetsOut Qx)
 {K:Act->World->Prop}(hK:∀a' dw w',HH C ops n es (listed.setIfInBounds i true) a' dw w'->Ext Y bl dw w w'->K a' w'):wpOp Y.P ops Qx i K a w:=by
 obtain⟨o,ho,F⟩:=oT i hi
 obtain⟨hun,o',UO,sc⟩:=mem_ready.1 hr
 have:o'=o:=Option.some.inj (UO.symm.trans ho)
 subst this
 have UP:=getD_both hun
 obtain⟨hd,e0,x,uh,D5⟩:=pJ i o' hi ho
 obtain⟨j,UQ,hjs,xL⟩:=inv.core
 have slot:∀t,(∀k ok,k<n->ops[k]? =some ok->ok.dst=some t->k<i∧listed.getD k false=true)->Rel Y bl w (look (es i).tm t) (a.tmps.getD t undef):=by
  intro t ht
  by_cases hex:∃k ok,k<n∧ops[k]? =some ok∧ok.dst=some t
  ·obtain⟨k,ok,hk,ia,rW⟩:=hex
   obtain⟨hki,hkl⟩:=ht k ok hk ia rW
   refine Cf hY hC oT pJ (k+1) i hki (by omega) (fun m om hm OT HL Z7=> ?_) (inv.tmp k ok t hk ia hkl rW)
   obtain⟨ok',Pl,Fk⟩:=oT k hk
   have:ok'=ok:=Option.some.inj (Pl.symm.trans ia)
   subst this
   exact Fk.dst m om t (by omega) (by omega) HL rW Z7
  ·refine Cf hY hC oT pJ 0 i (Nat.zero_le _) (by omega) (fun m om _ OT HL Z7=>hex ⟨m,om,by omega,HL,Z7⟩) (inv.base t (fun k ok hk ia rW=>hex ⟨k,ok,hk,ia,rW⟩))
 have used:∀t∈tmpsOf ops o',Rel Y bl w (look (es i).tm t) (a.tmps.getD t undef):=fun t ht=>slot t (fun k ok hk ia rW=>by
  obtain⟨h1,h2⟩:=F.use t ht k ok hk ia rW
  obtain⟨e,he,hb,LP⟩:=nE ho h2
  have:=sc e he hb
  rw[LP]at this
  exact⟨h1,this⟩)
 have ads:=HG uh (bl:=bl) (w:=w) (a:=a) (fun j' want d hg JW=>used d (by simp[tmpsOf,hg,JW]))
 have next:∀sv v dw w' c1,(es (i+1)).tm=oH o'.dst sv e0.tm->Rel Y dw w' sv v->(bH o'.op=true->x=true->c1=(es (i+1)).c∧(es j).c=(es i).c)->(bH o'.op=false∨x=false->c1=(es j).c)->(x=false->(es (i+1)).c=(es i).c)->(bH o'.op=true->x=false->(es j).c=(es i).c)->fu Y dw c1 w'->Ext Y bl dw w w'->
  (∀m,w'.cell? ⟨Y.B,m,none⟩=w.cell? ⟨Y.B,m,none⟩)->K (a.put o'.dst v) w':=by
  intro sv v dw w' c1 htm hrel rO Ay hc3 hc4 hinv bN hB
  refine hK _ dw w' ⟨inv.head.set hr hi,by rw[put_defers];exact inv.defers,by rw[mM];exact inv.size,?_,?_,?_⟩ bN
  ·cases bn:bH o'.op with
   |false=>
    refine⟨j,UQ,fun s os hs Uy hss=> ?_,?_⟩
    ·have dH:i≠s:=fun e=>by
      subst e
      have:os=o':=Option.some.inj (Uy.symm.trans ho)
      subst this;rw[bn]at hss;cases hss
     rw[getD_set_ne false dH];exact hjs s os hs Uy hss
    ·rw[←Ay (.inl bn)];exact hinv
   |true=>
    have agZ:(es j).c=(es i).c:=by
     cases hx:x with
     |true=>exact(rO bn hx).2
     |false=>exact hc4 bn hx
    refine⟨i+1,by omega,fun s os hs Uy hss=> ?_,?_⟩
    ·by_cases hsi:s=i
     ·subst hsi
      have bz:s<listed.size:=by rw[inv.head.size];exact(Array.getElem?_eq_some_iff.1 ho).1
      simp[bz]
     ·rw[getD_set_ne false (fun e=>hsi e.symm)]
      have UR:(mq os.op||gF os.op)=true:=by
       have:gF os.op=true:=pI hss
       simp[this]
      constructor
      ·intro hl
       rcases Nat.lt_or_ge s i with h|h
       ·omega
       ·exfalso
        have hw:=(F.str s os hs hsi Uy bn UR).1 (by omega)
        have:=mr inv.head 4 hw hl
        rw[UP]at this;cases this
      ·intro bz
       have hw:=(F.str s os hs hsi Uy bn UR).2 (by omega)
       exact sa inv.head hw hr
    ·cases hx:x with
     |true=>rw[←(rO bn hx).1];exact hinv
     |false=>rw[hc3 hx,←agZ,←Ay (.inr hx)];exact hinv
  ·intro k ok d hk ia hl rW
   by_cases hki:k=i
   ·subst hki
    have:ok=o':=Option.some.inj (ia.symm.trans ho)
    subst this
    have bz:d<a.tmps.size:=by
     rw[inv.size]
     have:=hd
     simp only[rW,iF]at this
     exact Nat.le_of_ble_eq_true this
    rw[htm,rW]
    simp only[oH,aF,if_true,Act.put]
    simp[bz]
    exact hrel
   ·rw[getD_set_ne false (fun e=>hki e.symm)]at hl
    have:=nC (inv.tmp k ok d hk ia hl rW) bN.pre hB
    have dH:o'.dst≠some d:=fun e=>F.dst k ok d hk hki ia e rW
    have:(a.put o'.dst v).tmps.getD d undef=a.tmps.getD d undef:=by
     cases hod:o'.dst with
     |none=>rfl
     |some d'=>
      have:¬d'=d:=fun e=>dH (by rw[hod,e])
      simp[Act.put,Array.getD_eq_getD_getElem?,Array.getElem?_setIfInBounds,this]
    rw[this]
    assumption
  ·intro t ht
   have hb:=nC (inv.base t ht) bN.pre hB
   have dH:o'.dst≠some t:=ht i o' hi ho
   have:(a.put o'.dst v).tmps.getD t undef=a.tmps.getD t undef:=by
    cases hod:o'.dst with
    |none=>rfl
    |some d'=>
     have:¬d'=t:=fun e=>dH (by rw[hod,e])
     simp[Act.put,Array.getD_eq_getD_getElem?,Array.getElem?_setIfInBounds,this]
   rw[this];exact hb
 unfold wpOp
 simp only[ho]
 rw[ads]
 rcases D5 with⟨hx,adv⟩|⟨hx,heq⟩
 ·subst hx
  rw[if_pos rfl]
  refine .inl ?_
  let bad:=((List.range n).filter (fun k=> !(Nat.blt k i&&listed.getD k false))).filterMap (fun k=>(ops[k]?).bind (·.dst))
  have lM:∀t,t∈bad↔∃k ok,k<n∧¬(k<i∧listed.getD k false=true)∧ops[k]? =some ok∧ok.dst=some t:=by
   intro t
   simp only[bad,List.mem_filterMap,List.mem_filter,List.mem_range,Bool.not_eq_true',Option.bind_eq_some_iff]
   constructor
   ·rintro⟨k,⟨hk,hb⟩,ok,ia,rW⟩
    refine⟨k,ok,hk,fun⟨h1,h2⟩=> ?_,ia,rW⟩
    have:Nat.blt k i=true:=Nat.ble_eq_true_of_le h1
    rw[this,h2]at hb;cases hb
   ·rintro⟨k,ok,hk,hb,ia,rW⟩
    refine⟨k,⟨hk,?_⟩,ok,ia,rW⟩
    cases h1:Nat.blt k i with
    |false=>rfl
    |true=>
     cases h2:listed.getD k false with
     |false=>rfl
     |true=>exact absurd ⟨Nat.le_of_ble_eq_true h1,h2⟩ hb
  have hrel:∀t,Rel Y bl w (look (mask bad e0.tm) t) (a.tmps.getD t undef):=by
   intro t
   rw[Av]
   by_cases hb:t∈bad
   ·rw[if_pos hb];exact trivial
   ·rw[if_neg hb]
    refine Cd uh t bl w _ (slot t (fun k ok hk ia rW=> ?_))
    exact Classical.byContradiction fun oL=>hb ((lM t).2 ⟨k,ok,hk,oL,ia,rW⟩)
  have Z4:∀y∈qN o'.op,fj (mask bad e0.tm) y=fj e0.tm y:=by
   intro y hy
   refine LQ (fun t ht=> ?_)
   subst ht
   rw[Av,if_neg]
   intro hb
   obtain⟨k,ok,hk,oL,ia,rW⟩:=(lM t).1 hb
   have ag1:t∈tmpsOf ops o':=List.mem_append_left _ (List.mem_filterMap.2 ⟨_,hy,rfl⟩)
   obtain⟨h1,h2⟩:=F.use t ag1 k ok hk ia rW
   obtain⟨e,he,fX,LP⟩:=nE ho h2
   have:=sc e he fX
   rw[LP]at this
   exact oL ⟨h1,this⟩
  have hcc:(mq o'.op||gF o'.op)=true->(es j).c=(es i).c:=fun ht=>JV hY hC oT pJ inv.head hi ho hr ht UQ hjs
  refine HJ hY hC adv Z4 (fun ht=>by rw[hcc ht,mO uh]) xL hrel (fun sv v dw w' c1 htm hrel rO Ay hinv bN hB=> ?_) (fun hb=>hOut (Z5 hY hC oT pJ (i+1) n (by omega) (Nat.le_refl _) hb))
  refine next sv v dw w' c1 htm hrel (fun bn _=>⟨rO bn,hcc ?_⟩) (fun h=> ?_) (fun h=>by cases h) (fun _ h=>by cases h) hinv bN hB
  ·have:gF o'.op=true:=pI bn
   simp[this]
  ·rcases h with h|h
   ·exact Ay h
   ·cases h
 ·subst hx
  rw[if_neg (by simp)]
  have htm:(es (i+1)).tm=oH o'.dst (.val (.tuple #[])) e0.tm:=by rw[heq]
  refine next (.val (.tuple #[])) undef bl w (es j).c htm rfl (fun _ h=>by cases h) (fun _=>rfl) (fun _=>by rw[heq];show e0.c=_;exact mO uh) (fun bn _=> ?_) xL (Ext.refl _ _ _) (fun _=>rfl)
  refine JV hY hC oT pJ inv.head hi ho hr ?_ UQ hjs
  have:gF o'.op=true:=pI bn
  simp[this]
theorem HM{Y:Sys}(hY:Laws Y){C:eS Y}(hC:C.Ok){ops:Array Oper}{n:Nat}(oT:∀i,i<n->∃o,ops[i]? =some o∧UM C.still ops n i o){es:Nat->E Y}(pJ:∀i o,i<n->ops[i]? =some o->gJ C ops o (es i) (es (i+1))){listed:Array Bool}(eJ:listed.size=ops.size){i:Nat}(hi:i<n)(hu:listed.getD i false=false):∃k,k<n∧k∈Region.ready .any ops listed:=by
 induction i using Nat.strongRecOn with
 |_ i ih=>
  by_cases h:∃k,k<i∧listed.getD k false=false
  ·obtain⟨k,hk,hku⟩:=h
   exact ih k hk (by omega) hku
  ·obtain⟨o,ho,F⟩:=oT i hi
   refine⟨i,hi,mem_ready.2 ⟨getD_in (by rw[eJ];exact(Array.getElem?_eq_some_iff.1 ho).1) hu,o,ho,fun e he hb=> ?_⟩⟩
   have bz:=F.lt e he hb
   cases hl:listed.getD e.on false with
   |true=>rfl
   |false=>exact absurd ⟨e.on,bz,hl⟩ h
theorem US{Y:Sys}(hY:Laws Y){C:eS Y}(hC:C.Ok){ops:Array Oper}{n:Nat}(oT:∀i,i<n->∃o,ops[i]? =some o∧UM C.still ops n i o){es:Nat->E Y}(pJ:∀i o,i<n->ops[i]? =some o->gJ C ops o (es i) (es (i+1)))(hn:n<=ops.size)(hgate:n=ops.size∨(Region.sinkB .any ops n=true∧Region.chainB .any ops n=true))(ag2:Region.seqB .any ops (ops.size-n) n (xC n ops.size)=true)
 {Q:E Y->Prop}{Qx:Exit->Act->World->Prop}(hQ:(cT C ops (ops.toList.drop n) (es n)).aD Q){mJ:List Nat}{w0:World}
 (hK:∀e' dw a' w',Q e'->cL Y C.N e' dw a' w'->Ext Y mJ dw w0 w'->Qx .normal a' w')(hOut:(∃e',Q e'∧Y.eM e'.c.st)->LetsOut Qx):
 ∀(m:Nat) (listed:Array Bool) (a:Act) (bl:List Nat) (w:World),HH C ops n es listed a bl w->Ext Y mJ bl w0 w->LR n listed<=m->wpAny Y.P .any ops Qx (m+(ops.size-n)) listed a w:=by
 intro m
 induction m with
 |zero=>
  intro listed a bl w inv bN hm
  have sc:∀i,i<n->listed.getD i false=true:=fun i hi=>by
   cases h:listed.getD i false with
   |true=>rfl
   |false=>
    have hs:i<listed.size:=by rw[inv.head.size];omega
    have:=UN (getD_in hs h) n hi
    omega
  have hlen:(ops.toList.drop n).length=ops.size-n:=by simp
  have adx:=LU inv.head.size hn sc (fun i h1 h2=>inv.head.tail i h1 h2)
  have hI:cL Y C.N (es n) bl a w:=by
   obtain⟨j,hj,hjs,xL⟩:=inv.core
   refine⟨?_,inv.defers,inv.size,fun t=> ?_⟩
   ·have:(es n).c=(es j).c:=Cg hY hC oT pJ j n hj (Nat.le_refl _) (fun m om hm OT HL=>by
     cases bn:bH om.op with
     |false=>rfl
     |true=>have:=(hjs m om OT HL bn).1 (sc m OT);omega)
    rw[this];exact xL
   ·by_cases hex:∃k ok,k<n∧ops[k]? =some ok∧ok.dst=some t
    ·obtain⟨k,ok,hk,ia,rW⟩:=hex
     refine Cf hY hC oT pJ (k+1) n hk (Nat.le_refl _) (fun m om hm OT HL Z7=> ?_) (inv.tmp k ok t hk ia (sc k hk) rW)
     obtain⟨ok',Pl,Fk⟩:=oT k hk
     have:ok'=ok:=Option.some.inj (Pl.symm.trans ia)
     subst this
     exact Fk.dst m om t (by omega) (by omega) HL rW Z7
    ·exact Cf hY hC oT pJ 0 n (Nat.zero_le _) (Nat.le_refl _) (fun m om _ OT HL Z7=>hex ⟨m,om,by omega,HL,Z7⟩) (inv.base t (fun k ok hk ia rW=>hex ⟨k,ok,hk,ia,rW⟩))
  have key:=wpAny_of_seq (P:=Y.P) (md:= .any) (ops:=ops) (Q':=Qx) (ops.toList.drop n) n listed a w (fun j=>by simp[List.getElem?_drop]) (by rw[hlen,adx];exact ag2)
   (mN hY hC _ _ _ _ _ _ hI hQ (fun e' dw a' w' hq gy Pm=>hK e' dw a' w' hq gy (bN.trans Pm)) hOut)
  rw[hlen]at key
  rw[Nat.zero_add]
  exact key
 |succ m ih=>
  intro listed a bl w inv bN hm
  by_cases sc:∀i,i<n->listed.getD i false=true
  ·have:=xM _ _ _ _ (ih listed a bl w inv bN (by rw[D_ n sc];exact Nat.zero_le _))
   rw[show m+1+(ops.size-n)=m+(ops.size-n)+1 by omega]
   exact this
  ·obtain⟨i,hi,hu⟩:∃i,i<n∧listed.getD i false=false:=by
    refine Classical.byContradiction fun h=>sc fun i hi=> ?_
    cases hl:listed.getD i false with
    |true=>rfl
    |false=>exact absurd ⟨i,hi,hl⟩ h
   have hiu:listed.getD i true=false:=getD_in (by rw[inv.head.size];omega) hu
   rw[show m+1+(ops.size-n)=(m+(ops.size-n))+1 by omega]
   refine⟨fun h=> ?_,fun k hk=> ?_⟩
   ·obtain⟨k,_,hk⟩:=HM hY hC oT pJ inv.head.size hi hu
    rw[h]at hk;cases hk
   ·have hkn:k<n:=by
     rcases hgate with h|⟨hs,hc⟩
     ·obtain⟨_,o,ho,_⟩:=mem_ready.1 hk
      rw[h];exact(Array.getElem?_eq_some_iff.1 ho).1
     ·rcases Nat.lt_or_ge k n with h|h
      ·exact h
      ·by_cases dH:n=ops.size
       ·obtain⟨_,o,ho,_⟩:=mem_ready.1 hk
        rw[dH];exact(Array.getElem?_eq_some_iff.1 ho).1
       ·exact absurd hk (tail_waits hs hc (by omega) inv.head _ i rfl hi hiu k h)
    refine Pk hY hC oT pJ inv hkn hk (fun hb=>hOut (gi hY hC _ _ _ hb hQ)) (fun a' dw w' jl Pm=> ?_)
    refine ih _ a' dw w' jl (bN.trans Pm) ?_
    have:=Ce ((mem_ready.1 hk).1) n hkn
    omega
theorem Az{Y:Sys}(hY:Laws Y){C:eS Y}(hC:C.Ok){ops:Array Oper}{n:Nat}(hB:D1 C.still ops n=true){id:Nat}{e:E Y}{bl:List Nat}{a:Act}{w:World}{Q:E Y->Prop}{Qx:Exit->Act->World->Prop}
 (hI:cL Y C.N e bl a w)(h:(cT C ops (ops.toList.take n) e).aD fun e'=>(cT C ops (ops.toList.drop n) e').aD Q)
 (hK:∀e' dw a' w',Q e'->cL Y C.N e' dw a' w'->Ext Y bl dw w w'->Qx .normal a' w')(hOut:(∃e',Q e'∧Y.eM e'.c.st)->LetsOut Qx):(Code.region id ops true).wp Y.P Qx a w:=by
 simp only[D1,Bool.and_eq_true,Bool.or_eq_true]at hB
 obtain⟨⟨⟨h1,h2⟩,h3⟩,h4⟩:=hB
 have hn:n<=ops.size:=Nat.le_of_ble_eq_true h1
 have oT:∀i,i<n->∃o,ops[i]? =some o∧UM C.still ops n i o:=fun i hi=>atF (List.all_eq_true.1 h2 i (List.mem_range.2 hi))
 have hlen:(ops.toList.take n).length=n:=by simp;omega
 obtain⟨es,he0,hq,pJ⟩:=vq hC (ops.toList.take n) e _ (fun o ho=>by
  obtain⟨i,hi,sd⟩:=List.mem_iff_getElem.1 ho
  have wb:i<n:=by rw[hlen]at hi;exact hi
  obtain⟨o',UO,F⟩:=oT i wb
  have:o'=o:=by
   have h5:ops[i]? =some o:=by
    rw[←Array.getElem?_toList]
    have:=List.getElem?_eq_getElem hi
    rw[List.getElem?_take,if_pos wb]at this
    rw[this,sd]
   exact Option.some.inj (UO.symm.trans h5)
  rw[←this];exact F.ok) h
 rw[hlen]at hq
 have ag3:∀i o,i<n->ops[i]? =some o->gJ C ops o (es i) (es (i+1)):=fun i o hi ho=>pJ i o (by rw[List.getElem?_take,if_pos hi,Array.getElem?_toList];exact ho)
 refine wp_region_any hY.mixed ?_
 have key:=US hY hC oT ag3 hn (h3.imp (fun h=>r_.1 h) (fun h=>h)) h4 hq (mJ:=bl) (w0:=w) (Qx:=Qx) hK hOut n (Array.replicate ops.size false) a bl w.drew ?_ (JU w).ext ?_
 ·rw[show n+(ops.size-n)=ops.size by omega]at key
  exact key
 ·have gy:cL Y C.N e bl a w.drew:=⟨As hY hI.core,hI.defers,hI.size,fun i=>nC (hI.rel i) (List.prefix_refl _) (fun _=>rfl)⟩
  refine⟨⟨by simp,fun j oj _ hl=>(by rw[getD_replicate_false]at hl;cases hl),fun t _ ht=>getD_in (by simpa using ht) (getD_replicate_false _ _)⟩,gy.defers,gy.size,⟨0,Nat.zero_le _,fun s o _ _ _=>⟨fun hl=>(by rw[getD_replicate_false]at hl;cases hl),fun hl=>absurd hl (Nat.not_lt_zero _)⟩,by rw[he0];exact gy.core⟩,fun i o d _ _ hl=>(by rw[getD_replicate_false]at hl;cases hl),fun t _=>by rw[he0];exact gy.rel t⟩
 ·have:∀k,LR k (Array.replicate ops.size false)<=k:=by
   intro k
   induction k with
   |zero=>exact Nat.le_refl _
   |succ k ih=>simp only[LR];split<;>omega
  exact this n
theorem cL.drew{Y:Sys}(hY:Laws Y){N:Nat}{e:E Y}{bl:List Nat}{a:Act}{w:World}(h:cL Y N e bl a w):cL Y N e bl a w.drew:=
 ⟨As hY h.core,h.defers,h.size,fun i=>nC (h.rel i) (List.prefix_refl _) (fun _=>rfl)⟩
theorem Ch{Y:Sys}(hY:Laws Y){C:eS Y}(hC:C.Ok){id:Nat}{ops:Array Oper}{draw:Bool}{e:E Y}{bl:List Nat}{a:Act}{w:World}{Q:E Y->Prop}{Qx:Exit->Act->World->Prop}
 (hI:cL Y C.N e bl a w)(h:(bif draw then xD C ops e else cT C ops ops.toList e).aD Q)
 (hQ:∀e' dw a' w',Q e'->cL Y C.N e' dw a' w'->Ext Y bl dw w w'->Qx .normal a' w')(hOut:(∃e',Q e'∧Y.eM e'.c.st)->LetsOut Qx):(Code.region id ops draw).wp Y.P Qx a w:=by
 cases draw with
 |false=>exact wp_region_list (mN hY hC _ _ _ _ _ _ hI h hQ hOut)
 |true=>
  simp only[cond_true,xD]at h
  cases hB:Region.lexTailB .any ops (iS ops.toList)with
  |false=>
   simp only[hB,cond_false]at h
   cases oA:D1 C.still ops ops.size with
   |true=>
    simp only[oA,cond_true,ax]at h
    exact Az hY hC oA hI h hQ hOut
   |false=>
    simp only[oA,cond_false]at h
    cases nF:D1 C.still ops (ops.size-1)with
    |true=>
     simp only[nF,cond_true,ax]at h
     exact Az hY hC nF hI h hQ hOut
    |false=>simp only[nF,cond_false,af.aD]at h
  |true=>
   simp only[hB,cond_true,ax]at h
   have key:=wp_region_still_tail (P:=Y.P) (id:=id) (Q:=Qx) (a:=a) (w:=w) (l:=ops.toList) (iS ops.toList) hY.mixed (by simpa using hB)
   simp only[Array.toArray_toList]at key
   refine key ?_
   refine oR hY _ e bl a w.drew _ (hI.drew hY) (qw _) h _ (fun e' a' hq gy=> ?_)
   exact mN hY hC _ _ _ _ _ _ gy hq (fun e2 bl2 a2 w2 ui Ux adz=>hQ _ _ _ _ ui Ux ((JU w).ext.trans adz)) hOut
theorem Ea{Y:Sys}(hY:Laws Y){C:eS Y}(hC:C.Ok){ops:Array Oper}{draw:Bool}{e:E Y}{Q:E Y->Prop}
 (hb:Y.eM e.c.st)(h:(bif draw then xD C ops e else cT C ops ops.toList e).aD Q):∃e',Q e'∧Y.eM e'.c.st:=by
 cases draw with
 |false=>exact gi hY hC _ _ _ hb h
 |true=>
  simp only[cond_true,xD]at h
  cases hB:Region.lexTailB .any ops (iS ops.toList)with
  |false=>
   simp only[hB,cond_false]at h
   cases oA:D1 C.still ops ops.size with
   |true=>
    simp only[oA,cond_true,ax]at h
    obtain⟨e1,h1,cz⟩:=gi hY hC _ _ _ hb h
    exact gi hY hC _ _ _ cz h1
   |false=>
    simp only[oA,cond_false]at h
    cases nF:D1 C.still ops (ops.size-1)with
    |true=>
     simp only[nF,cond_true,ax]at h
     obtain⟨e1,h1,cz⟩:=gi hY hC _ _ _ hb h
     exact gi hY hC _ _ _ cz h1
    |false=>simp only[nF,cond_false,af.aD]at h
  |true=>
   simp only[hB,cond_true,ax]at h
   obtain⟨e1,h1,cz⟩:=gi hY hC _ _ _ hb h
   exact gi hY hC _ _ _ cz h1
theorem JX{Y:Sys}(c:Operand)(v:SV)(e:E Y):(Hw c v e).c=e.c:=by cases c<;>rfl
theorem uj{Y:Sys}(f:E Y->af (Ex×E Y))(hf:∀(e:E Y) (Q:Ex×E Y->Prop),Y.eM e.c.st->(f e).aD Q->∃p,Q p∧Y.eM p.2.c.st):
 ∀(n:Nat) (e:E Y) (Q:Ex×E Y->Prop),Y.eM e.c.st->(iter f n e).aD Q->∃p,Q p∧Y.eM p.2.c.st
 |0,e,Q,_,h=>h.elim
 |n+1,e,Q,hb,h=>by
  simp only[iter,ax]at h
  obtain⟨⟨x1,e1⟩,h1,cz⟩:=hf e _ hb h
  obtain⟨⟩|⟨id⟩|⟨l⟩|⟨⟩:=x1
  ·exact uj f hf n e1 Q cz h1
  ·exact⟨_,h1,cz⟩
  ·exact⟨_,h1,cz⟩
  ·exact⟨_,h1,cz⟩
theorem fV{Y:Sys}(hY:Laws Y){C:eS Y}(hC:C.Ok):∀(c:Code) (e:E Y) (Q:Ex×E Y->Prop),
 Y.eM e.c.st->(az C c e).aD Q->∃p,Q p∧Y.eM p.2.c.st:=by
 intro c
 induction c with
 |skip=>intro e Q hb h;exact⟨_,h,hb⟩
 |label l=>intro e Q hb h;exact⟨_,h,hb⟩
 |exit id=>intro e Q hb h;exact⟨_,h,hb⟩
 |goto l=>intro e Q hb h;exact⟨_,h,hb⟩
 |ret=>intro e Q hb h;exact⟨_,h,hb⟩
 |region id ops draw=>
  intro e Q hb h
  simp only[az,ax]at h
  obtain⟨e1,h1,cz⟩:=Ea hY hC hb h
  exact⟨_,h1,cz⟩
 |seq x y UT UU=>
  intro e Q hb h
  simp only[az,ax]at h
  obtain⟨⟨x1,e1⟩,h1,cz⟩:=UT e _ hb h
  obtain⟨⟩|⟨id⟩|⟨l⟩|⟨⟩:=x1
  ·exact UU e1 Q cz h1
  ·exact⟨_,h1,cz⟩
  ·exact⟨_,h1,cz⟩
  ·exact⟨_,h1,cz⟩
 |cond c x y UT UU=>
  intro e Q hb h
  simp only[az]at h
  split at h
  ·exact h.1.2 e Q hb h.2
  ·split at h
   ·exact UT e Q hb h
   ·exact UU e Q hb h
   ·rename_i b _
    cases b with
    |true=>exact UT _ Q (by rw[JX];exact hb) (h.1 rfl)
    |false=>exact UU _ Q (by rw[JX];exact hb) (h.2 rfl)
   ·exact h.elim
 |block id b ih=>
  intro e Q hb h
  simp only[az]at h
  split at h
  ·rename_i g hg
   exact h.1.2 e Q hb h.2
  ·simp only[ax]at h
   obtain⟨⟨x1,e1⟩,h1,cz⟩:=ih e _ hb h
   obtain⟨⟩|⟨i⟩|⟨l⟩|⟨⟩:=x1
   ·exact⟨_,h1,cz⟩
   ·exact⟨_,h1,cz⟩
   ·exact⟨_,h1,cz⟩
   ·exact⟨_,h1,cz⟩
 |loop b ih=>intro e Q hb h;exact uj (az C b) ih C.kj e Q hb h
 |rangeFunc _ _ _ _ _ _=>intro e Q hb h;exact h.elim
 |scope b _=>
  intro e Q hb h
  simp only[az]at h
  split at h
  ·rename_i g hg
   exact h.1.2 e Q hb h.2
  ·exact h.elim
 |refuse _=>intro e Q hb h;exact h.elim
theorem cL.Hw{Y:Sys}{N:Nat}{e:E Y}{bl:List Nat}{a:Act}{w:World}(h:cL Y N e bl a w){c:Operand}{v:SV}(hv:Rel Y bl w v (a.eval c)):cL Y N (Hw c v e) bl a w:=by
 cases c with
 |tmp t=>exact⟨h.core,h.defers,h.size,ug h.rel hv⟩
 |const _=>exact h
 |global _=>exact h
 |func _=>exact h
theorem qR{Y:Sys}{N:Nat}{Q:Ex×E Y->Prop}{bl vu:List Nat}{w w1:World}(bN:Ext Y bl vu w w1){e:Exit}{a':Act}{w':World}(h:oG Y N Q vu w1 e a' w'):oG Y N Q bl w e a' w':=by
 rcases h with⟨x,e',dw,hq,hx,hI,h2⟩|h
 ·exact .inl ⟨x,e',dw,hq,hx,hI,bN.trans h2⟩
 ·exact .inr h
theorem xO{Y:Sys}(hY:Laws Y){C:eS Y}(hC:C.Ok){b:Code}(f:E Y->af (Ex×E Y))
 (hf:∀(e:E Y) (bl:List Nat) (a:Act) (w:World) (Q:Ex×E Y->Prop),cL Y C.N e bl a w->(f e).aD Q->b.wp Y.P (oG Y C.N Q bl w) a w)
 (hm:∀(e:E Y) (Q:Ex×E Y->Prop),Y.eM e.c.st->(f e).aD Q->∃p,Q p∧Y.eM p.2.c.st):
 ∀(n:Nat) (e:E Y) (bl:List Nat) (a:Act) (w:World) (Q:Ex×E Y->Prop) (mJ:List Nat) (w0:World),cL Y C.N e bl a w->(iter f n e).aD Q->Ext Y mJ bl w0 w->Code.rounds Y.P b (oG Y C.N Q mJ w0) n a w
 |0,e,bl,a,w,Q,mJ,w0,hI,h,bN=>h.elim
 |n+1,e,bl,a,w,Q,mJ,w0,hI,h,bN=>by
  simp only[iter,ax]at h
  rw[rounds_succ]
  refine wp_mono (hf e bl a w _ hI h) ?_
  rintro ex a1 w1 (⟨x1,e1,vu,hq,rfl,gG,cn⟩|⟨rfl,⟨x1,e1⟩,hq,cz⟩)
  ·obtain⟨⟩|⟨id⟩|⟨l⟩|⟨⟩:=x1
   ·exact xO hY hC f hf hm n e1 vu a1 w1 Q mJ w0 gG hq (bN.trans cn)
   ·exact .inl ⟨_,_,_,hq,rfl,gG,bN.trans cn⟩
   ·exact .inl ⟨_,_,_,hq,rfl,gG,bN.trans cn⟩
   ·exact .inl ⟨_,_,_,hq,rfl,gG,bN.trans cn⟩
  ·obtain⟨⟩|⟨id⟩|⟨l⟩|⟨⟩:=x1
   ·exact .inr ⟨rfl,uj f hm n e1 Q cz hq⟩
   ·exact .inr ⟨rfl,_,hq,cz⟩
   ·exact .inr ⟨rfl,_,hq,cz⟩
   ·exact .inr ⟨rfl,_,hq,cz⟩
theorem ju{Y:Sys}(hY:Laws Y){C:eS Y}(hC:C.Ok):∀(c:Code) (e:E Y) (bl:List Nat) (a:Act) (w:World) (Q:Ex×E Y->Prop),
 cL Y C.N e bl a w->(az C c e).aD Q->c.wp Y.P (oG Y C.N Q bl w) a w:=by
 intro c
 induction c with
 |skip=>intro e bl a w Q hI h;exact wp_skip (.inl ⟨_,_,_,h,rfl,hI,Ext.refl _ _ _⟩)
 |label l=>intro e bl a w Q hI h;exact wp_label (.inl ⟨_,_,_,h,rfl,hI,Ext.refl _ _ _⟩)
 |exit id=>intro e bl a w Q hI h;exact wp_exit (.inl ⟨_,_,_,h,rfl,hI,Ext.refl _ _ _⟩)
 |goto l=>intro e bl a w Q hI h;exact wp_goto (.inl ⟨_,_,_,h,rfl,hI,Ext.refl _ _ _⟩)
 |ret=>intro e bl a w Q hI h;exact wp_ret (.inl ⟨_,_,_,h,rfl,hI,Ext.refl _ _ _⟩)
 |region id ops draw=>
  intro e bl a w Q hI h
  simp only[az,ax]at h
  exact Ch hY hC hI h (fun e' dw a' w' hq gy bN=> .inl ⟨_,_,_,hq,rfl,gy,bN⟩) (fun⟨e',hq,hb⟩=>⟨a,w,.inr ⟨rfl,_,hq,hb⟩⟩)
 |seq x y UT UU=>
  intro e bl a w Q hI h
  simp only[az,ax]at h
  refine wp_seq (wp_mono (UT e bl a w _ hI h) ?_)
  rintro ex a1 w1 (⟨x1,e1,vu,hq,rfl,gG,bN⟩|⟨rfl,⟨x1,e1⟩,hq,hb⟩)
  ·obtain⟨⟩|⟨id⟩|⟨l⟩|⟨⟩:=x1
   ·exact wp_mono (UU e1 vu a1 w1 Q gG hq) (fun _ _ _ hp=>qR bN hp)
   ·exact .inl ⟨_,_,_,hq,rfl,gG,bN⟩
   ·exact .inl ⟨_,_,_,hq,rfl,gG,bN⟩
   ·exact .inl ⟨_,_,_,hq,rfl,gG,bN⟩
  ·obtain⟨⟩|⟨id⟩|⟨l⟩|⟨⟩:=x1
   ·exact .inr ⟨rfl,fV hY hC y e1 Q hb hq⟩
   ·exact .inr ⟨rfl,_,hq,hb⟩
   ·exact .inr ⟨rfl,_,hq,hb⟩
   ·exact .inr ⟨rfl,_,hq,hb⟩
 |cond c x y UT UU=>
  intro e bl a w Q hI h
  simp only[az]at h
  have ho:=B_ (a:=a) hI.rel c
  split at h
  ·exact h.1.1 e bl a w Q hI h.2
  ·split at h<;>rename_i hk<;>(try rw[hk]at ho)
   ·exact wp_cond_true ho (UT e bl a w Q hI h)
   ·exact wp_cond_false ho (UU e bl a w Q hI h)
   ·rename_i b
    cases b with
    |true=>exact wp_cond_true ho (UT _ bl a w Q (hI.Hw (v:= .tt) ho) (h.1 rfl))
    |false=>exact wp_cond_false ho (UU _ bl a w Q (hI.Hw (v:= .ff) ho) (h.2 rfl))
   ·exact h.elim
 |block id b ih=>
  intro e bl a w Q hI h
  simp only[az]at h
  split at h
  ·rename_i g hg
   exact h.1.1 e bl a w Q hI h.2
  ·simp only[ax]at h
   refine wp_block (wp_mono (ih e bl a w _ hI h) ?_)
   have JY:∀(i:Nat) (e1:E Y),(af.ae (bif Nat.beq i id then Ex.normal else Ex.exit i,e1)).aD Q->Q (if i=id then Ex.normal else Ex.exit i,e1):=by
    intro i e1 hq
    by_cases hi:i=id
    ·subst hi;rw[if_pos rfl];simpa[af.aD] using hq
    ·rw[if_neg hi]
     have:Nat.beq i id=false:=by
      cases hb:Nat.beq i id with
      |false=>rfl
      |true=>exact absurd (Nat.eq_of_beq_eq_true hb) hi
     simpa[af.aD,this] using hq
   rintro ex a1 w1 (⟨x1,e1,vu,hq,rfl,gG,bN⟩|⟨rfl,⟨x1,e1⟩,hq,hb⟩)
   ·obtain⟨⟩|⟨i⟩|⟨l⟩|⟨⟩:=x1
    ·exact .inl ⟨_,_,_,hq,rfl,gG,bN⟩
    ·simp only[Ex.oN,Exit.inBlock]
     have rP:=JY i e1 hq
     by_cases hi:i=id
     ·rw[if_pos hi]at rP⊢
      exact .inl ⟨.normal,_,_,rP,rfl,gG,bN⟩
     ·rw[if_neg hi]at rP⊢
      exact .inl ⟨.exit i,_,_,rP,rfl,gG,bN⟩
    ·exact .inl ⟨_,_,_,hq,rfl,gG,bN⟩
    ·exact .inl ⟨_,_,_,hq,rfl,gG,bN⟩
   ·obtain⟨⟩|⟨i⟩|⟨l⟩|⟨⟩:=x1
    ·exact .inr ⟨rfl,_,hq,hb⟩
    ·exact .inr ⟨rfl,_,JY i e1 hq,hb⟩
    ·exact .inr ⟨rfl,_,hq,hb⟩
    ·exact .inr ⟨rfl,_,hq,hb⟩
 |loop b ih=>
  intro e bl a w Q hI h
  exact wp_loop_rounds C.kj (xO hY hC (az C b) ih (fV hY hC b) C.kj e bl a w Q bl w hI h (Ext.refl _ _ _))
 |rangeFunc _ _ _ _ _ _=>intro e bl a w Q hI h;exact h.elim
 |scope b _=>
  intro e bl a w Q hI h
  simp only[az]at h
  split at h
  ·rename_i g hg
   exact h.1.1 e bl a w Q hI h.2
  ·exact h.elim
 |refuse _=>intro e bl a w Q hI h;exact h.elim
def wj{Y:Sys}(e e':E Y):Prop:=e'.c=e.c∧∀i,look e'.tm i= .jk∨look e'.tm i=look e.tm i
theorem wj.refl{Y:Sys}(e:E Y):wj e e:=⟨rfl,fun _=> .inr rfl⟩
def Ci(tm:List (Nat×SV)):List (Nat×SV)->Prop
 |[]=>True
 |(i,v)::r=>look tm i=v∧Ci tm r
theorem UW{Y:Sys}{e:E Y}{c:aq Y}{l:List (Nat×SV)}(hc:c=e.c)(h:Ci e.tm l):wj e ⟨c,l⟩:=by
 refine⟨hc,fun i=> ?_⟩
 have key:∀l,Ci e.tm l->look l i= .jk∨look l i=look e.tm i:=by
  intro l
  induction l with
  |nil=>intro _;exact .inl rfl
  |cons p r ih=>
   obtain⟨j,v⟩:=p
   rintro⟨h1,h2⟩
   rw[aF]
   by_cases hi:i=j
   ·subst hi;rw[if_pos rfl];exact .inr h1.symm
   ·rw[if_neg hi];exact ih h2
 exact key l h
theorem cL.da{Y:Sys}{N:Nat}{e e':E Y}{bl:List Nat}{a:Act}{w:World}(h:cL Y N e bl a w)(hw:wj e e'):cL Y N e' bl a w:=by
 refine⟨by rw[hw.1];exact h.core,h.defers,h.size,fun i=> ?_⟩
 rcases hw.2 i with h1|h1
 ·rw[h1];exact trivial
 ·rw[h1];exact h.rel i
theorem AA{Y:Sys}{bl:List Nat}{w:World}{tm:List (Nat×SV)}{a:Act}{fn:Func}{r:SV}(hr:∀i,Rel Y bl w (look tm i) (a.tmps.getD i undef))(h:mL tm fn.results.toList=some r):
 ∃v,(results fn a.tmps).run Y.P w= .ok v w∧Rel Y bl w r v:=by
 have qn:fn.results=fn.results.toList.toArray:=by simp
 unfold results
 rw[qn]
 generalize fn.results.toList=l at h
 unfold mL at h
 split at h
 ·simp only[Option.some.injEq]at h
  subst h
  exact⟨_,by simp,rfl⟩
 ·rename_i t
  simp only[Option.some.injEq]at h
  subst h
  exact⟨_,by simp,hr t⟩
 ·rename_i t u
  split at h
  ·rename_i x y h1 h2
   simp only[Option.some.injEq]at h
   subst h
   refine⟨_,by simp;rfl,?_⟩
   have e1:=fs (hr t) h1
   have e2:=fs (hr u) h2
   simp only[Array.getD_eq_getD_getElem?]at e1 e2
   rw[e1,e2]
   rfl
  ·cases h
 ·rename_i t u v
  split at h
  ·rename_i x y z h1 h2 h3
   simp only[Option.some.injEq]at h
   subst h
   refine⟨_,by simp;rfl,?_⟩
   have e1:=fs (hr t) h1
   have e2:=fs (hr u) h2
   have e3:=fs (hr v) h3
   simp only[Array.getD_eq_getD_getElem?]at e1 e2 e3
   rw[e1,e2,e3]
   rfl
  ·cases h
 ·cases h
theorem vv{Y:Sys}{bl:List Nat}{w:World}{args:List SV}{bS:List Value}(h:oM Y bl w args bS):args.length=bS.length:=by
 induction h with
 |nil=>rfl
 |cons _ _ ih=>simp[ih]
theorem vz{Y:Sys}{bl:List Nat}{w:World}{args:List SV}{bS:List Value}(h:oM Y bl w args bS):∀(n i:Nat),Rel Y bl w (look (number n args) i) (if n<=i then bS.getD (i-n) undef else undef):=by
 induction h with
 |nil=>intro n i;exact trivial
 |cons hv _ ih=>
  rename_i sv v l vs _
  intro n i
  simp only[number,aF]
  by_cases hi:i=n
  ·subst hi;simp;exact hv
  ·rw[if_neg hi]
   have:=ih (n+1) i
   by_cases hle:n<=i
   ·rw[if_pos hle]
    rw[if_pos (by omega)]at this
    have e:i-n=(i-(n+1))+1:=by omega
    rw[e,List.getD_cons_succ]
    exact this
   ·rw[if_neg hle]
    rw[if_neg (by omega)]at this
    exact this
theorem fM{Y:Sys}(hY:Laws Y){C:eS Y}(hC:C.Ok){f:FuncId}{fn:Func}(hf:Y.P.funcs[f]? =some fn):fg Y f #[] true (eh C fn):=by
 intro args c bl w bS Q cK hc h
 unfold eh at h
 split at h
 ·exact h.elim
 ·rename_i b hb
  cases hn:Nat.beq fn.ntmps C.N&&Nat.ble args.length C.N with
  |false=>simp only[hn,cond_false,af.aD]at h
  |true=>
   simp only[hn,cond_true,ax]at h
   obtain⟨h1,h2⟩:=Bool.and_eq_true_iff.1 hn
   have hN:fn.ntmps=C.N:=Nat.eq_of_beq_eq_true h1
   have hlen:args.length<=C.N:=Nat.le_of_ble_eq_true h2
   have hl:=vv cK
   simp only[Array.append_empty]
   refine calls_of_wp hf hb ?_
   have hI:cL Y C.N ⟨c,number 0 args⟩ bl {tmps:=bS.toArray++Array.replicate (fn.ntmps-bS.toArray.size) undef,defers:=[]} w:=by
    refine⟨hc,rfl,by simp[hN];omega,fun i=> ?_⟩
    have:=vz cK 0 i
    simp only[Nat.zero_le,if_true,Nat.sub_zero]at this
    have e:(bS.toArray++Array.replicate (fn.ntmps-bS.toArray.size) undef).getD i undef=bS.getD i undef:=by
     simp only[Array.getD_eq_getD_getElem?,List.getD_eq_getElem?_getD,Array.getElem?_append]
     by_cases hi:i<bS.length
     ·simp[hi]
     ·have:bS[i]? =none:=List.getElem?_eq_none (by omega)
      simp[hi,Array.getElem?_replicate]
      split<;>rfl
    rw[e];exact this
   refine wp_mono (ju hY hC b _ bl _ w _ hI h) ?_
   rintro ex a' w' (⟨x,e',dw,hq,rfl,gy,bN⟩|⟨rfl,⟨x,e'⟩,hq,fX⟩)
   case inr=>
    refine .inr ⟨rfl,?_⟩
    unfold kR at hq
    obtain⟨⟩|⟨id⟩|⟨l⟩|⟨⟩:=x
    ·simp only at hq
     split at hq
     ·exact⟨_,hq,fX⟩
     ·exact hq.elim
    ·exact hq.elim
    ·exact hq.elim
    ·simp only at hq
     split at hq
     ·exact⟨_,hq,fX⟩
     ·exact hq.elim
   have fin:∀r,mL e'.tm fn.results.toList=some r->Q (r,e'.c)->
    a'.defers=[]∧∃v,(results fn a'.tmps).run Y.P w'= .ok v w'∧((∃sv c' v' dw,Q (sv,c')∧Ending.returned v= .returned v'∧Rel Y dw w' sv v'∧fu Y dw c' w'∧Ext Y bl dw w w'∧
     (true=false->∀o,w'.cell? ⟨Y.B,o,none⟩=w.cell? ⟨Y.B,o,none⟩))∨(Ending.returned v= .outgrown∧∃p,Q p∧Y.eM p.2.st)):=by
    intro r hr hQ
    obtain⟨v,eg,hrel⟩:=AA (a:=a') gy.rel hr
    exact⟨gy.defers,v,eg,.inl ⟨r,e'.c,v,dw,hQ,rfl,hrel,gy.core,bN,fun h=>by cases h⟩⟩
   unfold kR at hq
   obtain⟨⟩|⟨id⟩|⟨l⟩|⟨⟩:=x
   ·simp only at hq
    split at hq
    ·rename_i r hr;exact fin r hr hq
    ·exact hq.elim
   ·exact hq.elim
   ·exact hq.elim
   ·simp only at hq
    split at hq
    ·rename_i r hr;exact fin r hr hq
    ·exact hq.elim
theorem iT{Y:Sys}(hY:Laws Y){C:eS Y}(hC:C.Ok){fn:Func}:gT (eh C fn):=by
 intro args c Q hb h
 unfold eh at h
 split at h
 ·exact h.elim
 ·rename_i b _
  cases hn:Nat.beq fn.ntmps C.N&&Nat.ble args.length C.N with
  |false=>simp only[hn,cond_false,af.aD]at h
  |true=>
   simp only[hn,cond_true,ax]at h
   obtain⟨⟨x,e'⟩,hq,fX⟩:=fV hY hC b _ _ (show Y.eM (E.mk c (number 0 args)).c.st from hb) h
   unfold kR at hq
   obtain⟨⟩|⟨id⟩|⟨l⟩|⟨⟩:=x
   ·simp only at hq
    split at hq
    ·exact⟨_,hq,fX⟩
    ·exact hq.elim
   ·exact hq.elim
   ·exact hq.elim
   ·simp only at hq
    split at hq
    ·exact⟨_,hq,fX⟩
    ·exact hq.elim
theorem fg.refine{Y:Sys}{f:FuncId}{kQ:Array Value}{iR:Bool}{g g':List SV->aq Y->af (SV×aq Y)}(h:fg Y f kQ iR g)
 (hg:∀args c (Q:SV×aq Y->Prop),(g' args c).aD Q->(g args c).aD Q):fg Y f kQ iR g':=
 fun args c bl w bS Q cK hc hs=>h args c bl w bS Q cK hc (hg _ _ _ hs)
theorem gT.refine{Y:Sys}{g g':List SV->aq Y->af (SV×aq Y)}(h:gT g)(hg:∀args c (Q:SV×aq Y->Prop),(g' args c).aD Q->(g args c).aD Q):gT g':=
 fun args c Q hb hs=>h args c Q hb (hg _ _ _ hs)
theorem HN{Y:Sys}(hY:Laws Y){C:eS Y}(hC:C.Ok){π:Type}(F:π->E Y)(μ:π->Nat)(h:π->af (Ex×E Y)){id:Nat}{b:Code}
 (round:∀p (Q:Ex×E Y->Prop),(h p).aD Q->(az C b (F p)).aD fun xe=>match xe.1 with
   | .normal=>∃p',wj xe.2 (F p')∧μ p'<μ p∧(h p').aD Q
   | .exit i=>if i=id then∃JZ,wj xe.2 JZ∧Q (.normal,JZ)else Q xe
   |_=>Q xe)
 (oB:∀p (Q:Ex×E Y->Prop),Y.eM (F p).c.st->(h p).aD Q->∃q,Q q∧Y.eM q.2.c.st):
 ∀p (Q:Ex×E Y->Prop) (bl:List Nat) (a:Act) (w:World),cL Y C.N (F p) bl a w->(h p).aD Q->(Code.block id (.loop b)).wp Y.P (oG Y C.N Q bl w) a w:=by
 intro p0 Q mJ a0 w0 Z8 Z9
 refine wp_block (wp_loop_rounds (μ p0+1) ?_)
 have key:∀(n:Nat) (p:π) (bl:List Nat) (a:Act) (w:World),cL Y C.N (F p) bl a w->Ext Y mJ bl w0 w->(h p).aD Q->μ p<n->
  Code.rounds Y.P b (Exit.inBlock id (oG Y C.N Q mJ w0)) n a w:=by
  intro n
  induction n with
  |zero=>intro p bl a w _ _ _ bz;omega
  |succ n ih=>
   intro p bl a w hI bN hs bz
   rw[rounds_succ]
   refine wp_mono (ju hY hC b _ bl a w _ hI (round p Q hs)) ?_
   rintro ex a1 w1 (⟨x1,e1,vu,hq,rfl,gG,cn⟩|⟨rfl,⟨x1,e1⟩,hq,cz⟩)
   case inr=>
    have out:∀xe,Q xe->Y.eM xe.2.c.st->LetsOut (oG Y C.N Q mJ w0):=fun xe h1 h2=>⟨a0,w0,.inr ⟨rfl,xe,h1,h2⟩⟩
    refine .inr ⟨rfl,?_⟩
    obtain⟨⟩|⟨i⟩|⟨l⟩|⟨⟩:=x1
    ·obtain⟨p',hw,Cj,jt⟩:=hq
     exact oB p' Q (by rw[hw.1];exact cz) jt
    ·simp only at hq
     by_cases hi:i=id
     ·rw[if_pos hi]at hq
      obtain⟨JZ,hw,hq⟩:=hq
      exact⟨_,hq,by show Y.eM JZ.c.st;rw[hw.1];exact cz⟩
     ·rw[if_neg hi]at hq
      exact⟨_,hq,cz⟩
    ·exact⟨_,hq,cz⟩
    ·exact⟨_,hq,cz⟩
   obtain⟨⟩|⟨i⟩|⟨l⟩|⟨⟩:=x1
   ·obtain⟨p',hw,Cj,jt⟩:=hq
    exact ih p' vu a1 w1 (gG.da hw) (bN.trans cn) jt (by omega)
   ·simp only[Ex.oN,Exit.then,Exit.inBlock]
    simp only at hq
    by_cases hi:i=id
    ·rw[if_pos hi]at hq⊢
     obtain⟨JZ,hw,hq⟩:=hq
     exact .inl ⟨.normal,_,_,hq,rfl,gG.da hw,bN.trans cn⟩
    ·rw[if_neg hi]at hq⊢
     exact .inl ⟨.exit i,_,_,hq,rfl,gG,bN.trans cn⟩
   ·exact .inl ⟨_,_,_,hq,rfl,gG,bN.trans cn⟩
   ·exact .inl ⟨_,_,_,hq,rfl,gG,bN.trans cn⟩
 exact key _ p0 mJ a0 w0 Z8 (Ext.refl _ _ _) Z9 (Nat.lt_succ_self _)
end
end Ev
end Go.Proofs.YtogkcphobhhbdaaGreatDoor
namespace Go.Proofs.YtogkcphobhhbdaaGreatDoor
open Go
namespace Sc
noncomputable section
def u64(x:Int):Int:=IntKind.u64.wrap x
structure e_ where
 line:Int
 aM:Int
 msg:U
structure St where
 ao:Bool
 p:Nat
 bD:Nat
 b:Option Nat
 aC:Int
 aL:Int
 ch:Int
 mode:Int
 au:Bool
 line:Int
 aM:Int
 blank:Bool
 tok:Int
 lit:U
 bad:Bool
 kind:Int
 op:Int
 prec:Int
 ab:List e_
def HO:U:=⟨#[105,110,118,97,108,105,100,32,78,85,76,32,99,104,97,114,97,99,116,101,114]⟩
def xP:U:=⟨#[105,110,118,97,108,105,100,32,85,84,70,45,56,32,101,110,99,111,100,105,110,103]⟩
def qS:U:=⟨#[105,110,118,97,108,105,100,32,66,79,77,32,105,110,32,116,104,101,32,109,105,100,100,108,101,32,111,102,32,116,104,101,32,102,105,108,101]⟩
structure Rd where
 p:Nat
 aM:Int
 ch:Int
 bD:Nat
 ab:List e_
def ak(O:U)(line:Int):Nat->Bool->Nat->Int->List e_->Rd
 |0,_,p,aM,ns=>⟨p,aM,-1,0,ns⟩
 |f+1,ao,p,aM,ns=>
  if p<O.size then
   if(O.get! p).toNat<128 then
    if(O.get! p).toNat=0∧ao=false then ak O line f false (p+1) (u64 (aM+1)) (ns++[⟨u64 (1+line),u64 (1+aM),HO⟩])
    else⟨p+1,aM,(O.get! p).toNat,1,ns⟩
   else if(Utf8.decode O p).1=0xFFFD∧(Utf8.decode O p).2=1 then
    ak O line f false (p+1) (u64 (aM+1)) (ns++[⟨u64 (1+line),u64 (1+aM),xP⟩])
   else if(Utf8.decode O p).1=0xFEFF then
    ak O line f false (p+(Utf8.decode O p).2) (u64 (aM+(Utf8.decode O p).2)) (if line>0∨aM>0 then ns++[⟨u64 (1+line),u64 (1+aM),qS⟩]else ns)
   else⟨p+(Utf8.decode O p).2,aM,(Utf8.decode O p).1,(Utf8.decode O p).2,ns⟩
  else⟨p,aM,-1,0,ns⟩
def aB(st:St):Int:=if st.ch=10 then u64 (st.aC+1)else st.aC
def aS(st:St):Int:=if st.ch=10 then 0 else u64 (st.aL+st.bD)
def St.read(st:St)(line:Int)(r:Rd):St:=
 {st with ao:=false,p:=r.p,bD:=r.bD,aC:=line,aL:=r.aM,ch:=r.ch,ab:=r.ab}
def aa(O:U)(st:St):St:=
 st.read (aB st) (ak O (aB st) (O.size+1) st.ao st.p (aS st) st.ab)
def start(st:St):St:={st with b:=some (st.p-st.bD)}
def stop(st:St):St:={st with b:=none}
def fG(O:U)(st:St):U:=O.extract (st.b.getD 0) (st.p-st.bD)
def cd(O:U)(st:St):St:=aa O {st with p:=st.b.getD 0,aL:=u64 (st.aL-u64 ((st.p:Int)-(st.b.getD 0:Nat)))}
def iG(line aM:Int)(m:U)(st:St):St:={st with ab:=st.ab++[⟨line,aM,m⟩]}
def error(m:U)(st:St):St:=iG (u64 (1+st.aC)) (u64 (1+st.aL)) m st
end
end Sc
end Go.Proofs.YtogkcphobhhbdaaGreatDoor
