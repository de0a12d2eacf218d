/- The scanner of the program told as plain functions, part 5: texts joined and shortened by a program (wip/tools/mini.py). -/
import Derived.Test.YtogkcphobhhbdaaGreatDoorYc4
import Derived.Lib.ConvBytes
set_option linter.unusedVariables false
set_option linter.unusedSimpArgs false
set_option maxHeartbeats 32000000
namespace Go.Proofs.YtogkcphobhhbdaaGreatDoor
open Go Go.RowKit
namespace Ev
set_option maxRecDepth 100000
noncomputable section
def fF{Y:Sys}(e e':E Y):Prop:=e'.c=e.c∧∀i,look e'.tm i= .jk∨look e'.tm i=look e.tm i∨∃v,iE (look e.tm i)=some v∧look e'.tm i= .val v
theorem fF.refl{Y:Sys}(e:E Y):fF e e:=⟨rfl,fun _=> .inr (.inl rfl)⟩
theorem wj.lax{Y:Sys}{e e':E Y}(h:wj e e'):fF e e':=⟨h.1,fun i=>(h.2 i).imp id .inl⟩
theorem cL.lax{Y:Sys}{N:Nat}{e e':E Y}{bl:List Nat}{a:Act}{w:World}(h:cL Y N e bl a w)(hw:fF e e'):cL Y N e' bl a w:=by
 refine⟨by rw[hw.1];exact h.core,h.defers,h.size,fun i=> ?_⟩
 rcases hw.2 i with h1|h1|⟨v,h1,h2⟩
 ·rw[h1];exact trivial
 ·rw[h1];exact h.rel i
 ·rw[h2];exact fs (h.rel i) h1
def pO(v:SV):SV:=match iE v with
 |some u=> .val u
 |none=>v
def AJ(tm:List (Nat×SV)):List Nat->List (Nat×SV)
 |[]=>[]
 |i::r=>(i,pO (look tm i))::AJ tm r
def cU{Y:Sys}(bm:List Nat)(e:E Y):E Y:=⟨e.c,AJ e.tm bm⟩
theorem xY(tm:List (Nat×SV))(i:Nat):∀bm,look (AJ tm bm) i= .jk∨look (AJ tm bm) i=look tm i∨∃v,iE (look tm i)=some v∧look (AJ tm bm) i= .val v
 |[]=> .inl rfl
 |j::r=>by
  simp only[AJ,aF]
  by_cases h:i=j
  ·rw[if_pos h,←h]
   unfold pO
   split
   ·rename_i u hu;exact .inr (.inr ⟨u,hu,rfl⟩)
   ·exact .inr (.inl rfl)
  ·rw[if_neg h];exact xY tm i r
theorem iU{Y:Sys}(bm:List Nat)(e:E Y):fF e (cU bm e):=⟨rfl,fun i=>xY e.tm i bm⟩
structure At(Y:Sys)(N:Nat)(c:Code){π:Type}(F:π->E Y)(g:π->af (Ex×E Y)):Prop where
 wp:∀(p:π) (bl:List Nat) (a:Act) (w:World) (Q:Ex×E Y->Prop),cL Y N (F p) bl a w->(g p).aD Q->c.wp Y.P (oG Y N Q bl w) a w
 mono:∀(p:π) (Q:Ex×E Y->Prop),Y.eM (F p).c.st->(g p).aD Q->∃q,Q q∧Y.eM q.2.c.st
theorem xZ{Y:Sys}{N:Nat}{Q:Ex×E Y->Prop}{bl:List Nat}{w:World}{e:Exit}{a':Act}{w':World}
 (h:oG Y N (fun xe=>∃e',fF xe.2 e'∧Q (xe.1,e')) bl w e a' w'):oG Y N Q bl w e a' w':=by
 rcases h with⟨x,e1,dw,⟨e',hl,hq⟩,hx,hI,bN⟩|⟨hx,p,⟨e',hl,hq⟩,hb⟩
 ·exact .inl ⟨x,e',dw,hq,hx,hI.lax hl,bN⟩
 ·exact .inr ⟨hx,_,hq,by show Y.eM e'.c.st;rw[hl.1];exact hb⟩
theorem At.ev{Y:Sys}(hY:Laws Y){C:eS Y}(hC:C.Ok){c:Code}{π:Type}{F:π->E Y}{g:π->af (Ex×E Y)}
 (h:∀p (Q:Ex×E Y->Prop),(g p).aD Q->(az C c (F p)).aD fun xe=>∃e',fF xe.2 e'∧Q (xe.1,e')):At Y C.N c F g where
 wp:=fun p bl a w Q hI hs=>wp_mono (ju hY hC c (F p) bl a w _ hI (h p Q hs)) fun _ _ _ hp=>xZ hp
 mono:=fun p Q hb hs=>by
  obtain⟨⟨x,e1⟩,⟨e',hl,hq⟩,fX⟩:=fV hY hC c (F p) _ hb (h p Q hs)
  exact⟨_,hq,by show Y.eM e'.c.st;rw[hl.1];exact fX⟩
theorem At.qB{Y:Sys}(hY:Laws Y){C:eS Y}(hC:C.Ok){c:Code}{π:Type}{F:π->E Y}{g:π->af (Ex×E Y)}(bm:Ex->List Nat)
 (h:∀p (Q:Ex×E Y->Prop),(g p).aD Q->((az C c (F p)).bind fun xe=> .ae (xe.1,cU (bm xe.1) xe.2)).aD Q):At Y C.N c F g:=
 At.ev hY hC fun p Q hs=>by
  have:=h p Q hs
  rw[ax]at this
  exact an this fun xe hq=>⟨_,iU _ _,hq⟩
theorem At.refine{Y:Sys}{N:Nat}{c:Code}{π ρ:Type}{F:π->E Y}{g:π->af (Ex×E Y)}(hA:At Y N c F g){F':ρ->E Y}{g':ρ->af (Ex×E Y)}
 (h:∀r (Q:Ex×E Y->Prop),(g' r).aD Q->∃p,fF (F' r) (F p)∧(g p).aD fun xe=>∃e',fF xe.2 e'∧Q (xe.1,e')):At Y N c F' g' where
 wp:=fun r bl a w Q hI hs=>by
  obtain⟨p,hl,jt⟩:=h r Q hs
  exact wp_mono (hA.wp p bl a w _ (hI.lax hl) jt) fun _ _ _ hp=>xZ hp
 mono:=fun r Q hb hs=>by
  obtain⟨p,hl,jt⟩:=h r Q hs
  obtain⟨⟨x,e1⟩,⟨e',Vh,hq⟩,fX⟩:=hA.mono p _ (by rw[hl.1];exact hb) jt
  exact⟨_,hq,by show Y.eM e'.c.st;rw[Vh.1];exact fX⟩
theorem At.seq{Y:Sys}{N:Nat}{a b:Code}{π ρ:Type}{F:π->E Y}{ga:π->af (Ex×E Y)}{F':ρ->E Y}{gb:ρ->af (Ex×E Y)}(hA:At Y N a F ga)(hB:At Y N b F' gb)
 {g:π->af (Ex×E Y)}(h:∀p (Q:Ex×E Y->Prop),(g p).aD Q->(ga p).aD fun xe=>match xe.1 with
  | .normal=>∃q,fF xe.2 (F' q)∧(gb q).aD Q
  |_=>Q xe):At Y N (.seq a b) F g where
 wp:=fun p bl ac w Q hI hs=>by
  refine wp_seq (wp_mono (hA.wp p bl ac w _ hI (h p Q hs)) ?_)
  rintro ex a1 w1 (⟨x1,e1,vu,hq,rfl,gG,bN⟩|⟨rfl,⟨x1,e1⟩,hq,hb⟩)
  ·obtain⟨⟩|⟨id⟩|⟨l⟩|⟨⟩:=x1
   ·obtain⟨q,hl,jt⟩:=hq
    exact wp_mono (hB.wp q vu a1 w1 Q (gG.lax hl) jt) (fun _ _ _ hp=>qR bN hp)
   ·exact .inl ⟨_,_,_,hq,rfl,gG,bN⟩
   ·exact .inl ⟨_,_,_,hq,rfl,gG,bN⟩
   ·exact .inl ⟨_,_,_,hq,rfl,gG,bN⟩
  ·obtain⟨⟩|⟨id⟩|⟨l⟩|⟨⟩:=x1
   ·obtain⟨q,hl,jt⟩:=hq
    exact .inr ⟨rfl,hB.mono q Q (by rw[hl.1];exact hb) jt⟩
   ·exact .inr ⟨rfl,_,hq,hb⟩
   ·exact .inr ⟨rfl,_,hq,hb⟩
   ·exact .inr ⟨rfl,_,hq,hb⟩
 mono:=fun p Q hb hs=>by
  obtain⟨⟨x1,e1⟩,hq,cz⟩:=hA.mono p _ hb (h p Q hs)
  obtain⟨⟩|⟨id⟩|⟨l⟩|⟨⟩:=x1
  ·obtain⟨q,hl,jt⟩:=hq
   exact hB.mono q Q (by rw[hl.1];exact cz) jt
  ·exact⟨_,hq,cz⟩
  ·exact⟨_,hq,cz⟩
  ·exact⟨_,hq,cz⟩
def cO:Nat->Code->Option (Code×Code)
 |0,c=>some (.skip,c)
 |n+1,.seq a r=>(cO n r).map fun p=>(.seq a p.1,p.2)
 |_+1,_=>none
def ck(n:Nat)(c:Code):Code:=match cO n c with
 |some p=>p.1
 |none=> .skip
def ah(n:Nat)(c:Code):Code:=match cO n c with
 |some p=>p.2
 |none=> .skip
def jw(n:Nat)(c:Code):Bool:=(cO n c).isSome
theorem Qc{Y:Sys}(hY:Laws Y){C:eS Y}(hC:C.Ok){ρ:Type}{F':ρ->E Y}{gb:ρ->af (Ex×E Y)}:∀(n:Nat) (c x y:Code),cO n c=some (x,y)->At Y C.N y F' gb->
 ∀(e:E Y) (bl:List Nat) (a:Act) (w:World) (Q:Ex×E Y->Prop),cL Y C.N e bl a w->(az C x e).aD (fun xe=>match xe.1 with
  | .normal=>∃q,fF xe.2 (F' q)∧(gb q).aD Q
  |_=>Q xe)->c.wp Y.P (oG Y C.N Q bl w) a w:=by
 intro n
 induction n with
 |zero=>
  intro c x y hc hB e bl a w Q hI h
  simp only[cO,Option.some.injEq,Prod.mk.injEq]at hc
  obtain⟨rfl,rfl⟩:=hc
  obtain⟨q,hl,hs⟩:=h
  exact hB.wp q bl a w Q (hI.lax hl) hs
 |succ n ih=>
  intro c x y hc hB e bl a w Q hI h
  cases c with
  |seq c1 r=>
   simp only[cO]at hc
   obtain⟨⟨x',y'⟩,hp,heq⟩:=Option.map_eq_some_iff.1 hc
   simp only[Prod.mk.injEq]at heq
   obtain⟨rfl,rfl⟩:=heq
   rw[jJ]at h
   refine wp_seq (wp_mono (ju hY hC c1 e bl a w _ hI h) ?_)
   rintro ex a1 w1 (⟨x1,e1,vu,hq,rfl,gG,bN⟩|⟨rfl,⟨x1,e1⟩,hq,hb⟩)
   ·obtain⟨⟩|⟨id⟩|⟨l⟩|⟨⟩:=x1
    ·exact wp_mono (ih r x' y' hp hB e1 vu a1 w1 Q gG hq) (fun _ _ _ hp=>qR bN hp)
    ·exact .inl ⟨_,_,_,hq,rfl,gG,bN⟩
    ·exact .inl ⟨_,_,_,hq,rfl,gG,bN⟩
    ·exact .inl ⟨_,_,_,hq,rfl,gG,bN⟩
   ·obtain⟨⟩|⟨id⟩|⟨l⟩|⟨⟩:=x1
    ·obtain⟨⟨x2,e2⟩,ui,fm⟩:=fV hY hC x' e1 _ hb hq
     obtain⟨⟩|⟨id⟩|⟨l⟩|⟨⟩:=x2
     ·obtain⟨q,hl,hs⟩:=ui
      exact .inr ⟨rfl,hB.mono q Q (by rw[hl.1];exact fm) hs⟩
     ·exact .inr ⟨rfl,_,ui,fm⟩
     ·exact .inr ⟨rfl,_,ui,fm⟩
     ·exact .inr ⟨rfl,_,ui,fm⟩
    ·exact .inr ⟨rfl,_,hq,hb⟩
    ·exact .inr ⟨rfl,_,hq,hb⟩
    ·exact .inr ⟨rfl,_,hq,hb⟩
  |_=>simp[cO]at hc
theorem EF{n:Nat}{c:Code}(h:jw n c=true):cO n c=some (ck n c,ah n c):=by
 unfold jw at h
 cases hc:cO n c with
 |none=>rw[hc]at h;cases h
 |some p=>simp[ck,ah,hc]
theorem At.cut{Y:Sys}(hY:Laws Y){C:eS Y}(hC:C.Ok){c:Code}(n:Nat)(hc:jw n c=true){π ρ:Type}{F:π->E Y}{F':ρ->E Y}{gb:ρ->af (Ex×E Y)}(hB:At Y C.N (ah n c) F' gb)
 {g:π->af (Ex×E Y)}(h:∀p (Q:Ex×E Y->Prop),(g p).aD Q->(az C (ck n c) (F p)).aD fun xe=>match xe.1 with
  | .normal=>∃q,fF xe.2 (F' q)∧(gb q).aD Q
  |_=>Q xe):At Y C.N c F g where
 wp:=fun p bl a w Q hI hs=>Qc hY hC n c _ _ (EF hc) hB (F p) bl a w Q hI (h p Q hs)
 mono:=fun p Q hb hs=>by
  obtain⟨⟨x2,e2⟩,ui,fm⟩:=fV hY hC (ck n c) (F p) _ hb (h p Q hs)
  obtain⟨⟩|⟨id⟩|⟨l⟩|⟨⟩:=x2
  ·obtain⟨q,hl,hs⟩:=ui
   exact hB.mono q Q (by rw[hl.1];exact fm) hs
  ·exact⟨_,ui,fm⟩
  ·exact⟨_,ui,fm⟩
  ·exact⟨_,ui,fm⟩
theorem At.loop{Y:Sys}{N:Nat}{π:Type}{F:π->E Y}{gb:π->af (Ex×E Y)}(μ:π->Nat){h:π->af (Ex×E Y)}{id:Nat}{b:Code}(hB:At Y N b F gb)
 (round:∀p (Q:Ex×E Y->Prop),(h p).aD Q->(gb p).aD fun xe=>match xe.1 with
   | .normal=>∃p',fF xe.2 (F p')∧μ p'<μ p∧(h p').aD Q
   | .exit i=>if i=id then∃JZ,fF xe.2 JZ∧Q (.normal,JZ)else Q xe
   |_=>Q xe)
 (oB:∀p (Q:Ex×E Y->Prop),Y.eM (F p).c.st->(h p).aD Q->∃q,Q q∧Y.eM q.2.c.st):At Y N (.block id (.loop b)) F h where
 mono:=oB
 wp:=by
  intro p0 mJ a0 w0 Q Z8 Z9
  refine wp_block (wp_loop_rounds (μ p0+1) ?_)
  have key:∀(n:Nat) (p:π) (bl:List Nat) (a:Act) (w:World),cL Y N (F p) bl a w->Ext Y mJ bl w0 w->(h p).aD Q->μ p<n->
   Code.rounds Y.P b (Exit.inBlock id (oG Y N Q mJ w0)) n a w:=by
   intro n
   induction n with
   |zero=>intro p bl a w _ _ _ bz;omega
   |succ n ih=>
    intro p bl a w hI bN hs bz
    rw[rounds_succ]
    refine wp_mono (hB.wp p bl a w _ hI (round p Q hs)) ?_
    rintro ex a1 w1 (⟨x1,e1,vu,hq,rfl,gG,cn⟩|⟨rfl,⟨x1,e1⟩,hq,cz⟩)
    case inr=>
     refine .inr ⟨rfl,?_⟩
     obtain⟨⟩|⟨i⟩|⟨l⟩|⟨⟩:=x1
     ·obtain⟨p',hw,Cj,jt⟩:=hq
      exact oB p' Q (by rw[hw.1];exact cz) jt
     ·simp only at hq
      by_cases hi:i=id
      ·rw[if_pos hi]at hq
       obtain⟨JZ,hw,hq⟩:=hq
       exact⟨_,hq,by show Y.eM JZ.c.st;rw[hw.1];exact cz⟩
      ·rw[if_neg hi]at hq
       exact⟨_,hq,cz⟩
     ·exact⟨_,hq,cz⟩
     ·exact⟨_,hq,cz⟩
    obtain⟨⟩|⟨i⟩|⟨l⟩|⟨⟩:=x1
    ·obtain⟨p',hw,Cj,jt⟩:=hq
     exact ih p' vu a1 w1 (gG.lax hw) (bN.trans cn) jt (by omega)
    ·simp only[Ex.oN,Exit.then,Exit.inBlock]
     simp only at hq
     by_cases hi:i=id
     ·rw[if_pos hi]at hq⊢
      obtain⟨JZ,hw,hq⟩:=hq
      exact .inl ⟨.normal,_,_,hq,rfl,gG.lax hw,bN.trans cn⟩
     ·rw[if_neg hi]at hq⊢
      exact .inl ⟨.exit i,_,_,hq,rfl,gG,bN.trans cn⟩
    ·exact .inl ⟨_,_,_,hq,rfl,gG,bN.trans cn⟩
    ·exact .inl ⟨_,_,_,hq,rfl,gG,bN.trans cn⟩
  exact key _ p0 mJ a0 w0 Z8 (Ext.refl _ _ _) Z9 (Nat.lt_succ_self _)
theorem At.block{Y:Sys}{N:Nat}{π:Type}{F:π->E Y}{gb:π->af (Ex×E Y)}{id:Nat}{b:Code}(hB:At Y N b F gb){g:π->af (Ex×E Y)}
 (h:∀p (Q:Ex×E Y->Prop),(g p).aD Q->(gb p).aD fun xe=>match xe.1 with
   | .exit i=>if i=id then Q (.normal,xe.2)else Q xe
   |_=>Q xe):At Y N (.block id b) F g where
 mono:=fun p Q hb hs=>by
  obtain⟨⟨x1,e1⟩,hq,cz⟩:=hB.mono p _ hb (h p Q hs)
  obtain⟨⟩|⟨i⟩|⟨l⟩|⟨⟩:=x1
  ·exact⟨_,hq,cz⟩
  ·simp only at hq
   split at hq
   ·exact⟨_,hq,cz⟩
   ·exact⟨_,hq,cz⟩
  ·exact⟨_,hq,cz⟩
  ·exact⟨_,hq,cz⟩
 wp:=fun p bl a w Q hI hs=>by
  refine wp_block (wp_mono (hB.wp p bl a w _ hI (h p Q hs)) ?_)
  rintro ex a1 w1 (⟨x1,e1,vu,hq,rfl,gG,cn⟩|⟨rfl,⟨x1,e1⟩,hq,cz⟩)
  ·obtain⟨⟩|⟨i⟩|⟨l⟩|⟨⟩:=x1
   ·exact .inl ⟨_,_,_,hq,rfl,gG,cn⟩
   ·simp only[Ex.oN,Exit.inBlock]
    simp only at hq
    by_cases hi:i=id
    ·rw[if_pos hi]at hq⊢
     exact .inl ⟨.normal,_,_,hq,rfl,gG,cn⟩
    ·rw[if_neg hi]at hq⊢
     exact .inl ⟨.exit i,_,_,hq,rfl,gG,cn⟩
   ·exact .inl ⟨_,_,_,hq,rfl,gG,cn⟩
   ·exact .inl ⟨_,_,_,hq,rfl,gG,cn⟩
  ·refine .inr ⟨rfl,?_⟩
   obtain⟨⟩|⟨i⟩|⟨l⟩|⟨⟩:=x1
   ·exact⟨_,hq,cz⟩
   ·simp only at hq
    split at hq
    ·exact⟨_,hq,cz⟩
    ·exact⟨_,hq,cz⟩
   ·exact⟨_,hq,cz⟩
   ·exact⟨_,hq,cz⟩
theorem At.jI{Y:Sys}{N:Nat}{id:Nat}{b:Code}{g:E Y->af (Ex×E Y)}(h:At Y N (.block id b) (fun e:E Y=>e) g):cy Y N id b g:=
 ⟨fun e bl a w Q hI hs=>h.wp e bl a w Q hI hs,fun e Q hb hs=>h.mono e Q hb hs⟩
theorem At.scope{Y:Sys}{N:Nat}{π ρ:Type}{F0:ρ->E Y}{g0:ρ->af (Ex×E Y)}{F:Nat->π->E Y}{gp:Nat->π->af (Ex×E Y)}(μ:Nat->π->Nat){h:Nat->π->af (Ex×E Y)}{b:Code}{rest:Nat->Code}
 (zM:At Y N b F0 g0)(hB:∀l,At Y N (rest l) (F l) (gp l))
 (pass:∀l p (Q:Ex×E Y->Prop),(h l p).aD Q->findLabel b l=some (rest l)∧(gp l p).aD fun xe=>match xe.1 with
   | .goto l'=>∃p',fF xe.2 (F l' p')∧μ l' p'<μ l p∧(h l' p').aD Q
   |_=>Q xe)
 (oB:∀l p (Q:Ex×E Y->Prop),Y.eM (F l p).c.st->(h l p).aD Q->∃q,Q q∧Y.eM q.2.c.st)
 {g:ρ->af (Ex×E Y)}
 (first:∀r (Q:Ex×E Y->Prop),(g r).aD Q->(g0 r).aD fun xe=>match xe.1 with
   | .goto l'=>∃p',fF xe.2 (F l' p')∧(h l' p').aD Q
   |_=>Q xe):At Y N (.scope b) F0 g where
 wp:=fun r0 mJ a0 w0 Q Z8 Z9=>by
  refine sn (fun n l a w=>∃p bl,cL Y N (F l p) bl a w∧Ext Y mJ bl w0 w∧(h l p).aD Q∧μ l p=n) ?_ ?_
  ·refine wp_mono (zM.wp r0 mJ a0 w0 _ Z8 (first r0 Q Z9)) ?_
   rintro ex a1 w1 (⟨x1,e1,vu,hq,rfl,gG,cn⟩|⟨rfl,⟨x1,e1⟩,hq,cz⟩)
   ·obtain⟨⟩|⟨i⟩|⟨l⟩|⟨⟩:=x1
    ·exact .inl ⟨.normal,_,_,hq,rfl,gG,cn⟩
    ·exact .inl ⟨.exit i,_,_,hq,rfl,gG,cn⟩
    ·obtain⟨p',hw,jt⟩:=hq
     exact⟨_,p',vu,gG.lax hw,cn,jt,rfl⟩
    ·exact .inl ⟨.ret,_,_,hq,rfl,gG,cn⟩
   ·refine .inr ⟨rfl,?_⟩
    obtain⟨⟩|⟨i⟩|⟨l⟩|⟨⟩:=x1
    ·exact⟨_,hq,cz⟩
    ·exact⟨_,hq,cz⟩
    ·obtain⟨p',hw,jt⟩:=hq
     exact oB l p' Q (by rw[hw.1];exact cz) jt
    ·exact⟨_,hq,cz⟩
  ·rintro n l a w ⟨p,bl,hI,bN,hs,hn⟩
   obtain⟨hf,hp⟩:=pass l p Q hs
   refine⟨rest l,hf,wp_mono ((hB l).wp p bl a w _ hI hp) ?_⟩
   rintro ex a1 w1 (⟨x1,e1,vu,hq,rfl,gG,cn⟩|⟨rfl,⟨x1,e1⟩,hq,cz⟩)
   ·obtain⟨⟩|⟨i⟩|⟨l'⟩|⟨⟩:=x1
    ·exact .inl ⟨.normal,_,_,hq,rfl,gG,bN.trans cn⟩
    ·exact .inl ⟨.exit i,_,_,hq,rfl,gG,bN.trans cn⟩
    ·obtain⟨p',hw,bz,jt⟩:=hq
     exact⟨_,by rw[←hn];exact bz,p',vu,gG.lax hw,bN.trans cn,jt,rfl⟩
    ·exact .inl ⟨.ret,_,_,hq,rfl,gG,bN.trans cn⟩
   ·refine .inr ⟨rfl,?_⟩
    obtain⟨⟩|⟨i⟩|⟨l'⟩|⟨⟩:=x1
    ·exact⟨_,hq,cz⟩
    ·exact⟨_,hq,cz⟩
    ·obtain⟨p',hw,_,jt⟩:=hq
     exact oB l' p' Q (by rw[hw.1];exact cz) jt
    ·exact⟨_,hq,cz⟩
 mono:=fun r Q hb hs=>by
  obtain⟨⟨x1,e1⟩,hq,cz⟩:=zM.mono r _ hb (first r Q hs)
  obtain⟨⟩|⟨i⟩|⟨l⟩|⟨⟩:=x1
  ·exact⟨_,hq,cz⟩
  ·exact⟨_,hq,cz⟩
  ·obtain⟨p',hw,jt⟩:=hq
   exact oB l p' Q (by rw[hw.1];exact cz) jt
  ·exact⟨_,hq,cz⟩
theorem At.fn{Y:Sys}{N:Nat}{f:FuncId}{fn:Func}{b:Code}(hf:Y.P.funcs[f]? =some fn)(hb:fn.body=some b)(hN:fn.ntmps=N){π:Type}{arg:π->List SV}{core:π->aq Y}{g:π->af (Ex×E Y)}
 (hlen:∀p,(arg p).length<=N)(hAt:At Y N b (fun p=>⟨core p,number 0 (arg p)⟩) g){G:List SV->aq Y->af (SV×aq Y)}
 (hG:∀args c (Q:SV×aq Y->Prop),(G args c).aD Q->∃p,arg p=args∧core p=c∧(g p).aD fun xe=>(kR fn xe).aD Q):fg Y f #[] true G:=by
 intro args c bl w bS Q cK hc h
 obtain⟨p,rfl,rfl,hs⟩:=hG args c Q h
 have hl:=vv cK
 have aiZ:=hlen p
 simp only[Array.append_empty]
 refine calls_of_wp hf hb ?_
 have hI:cL Y N ⟨core p,number 0 (arg p)⟩ bl {tmps:=bS.toArray++Array.replicate (fn.ntmps-bS.toArray.size) undef,defers:=[]} w:=by
  refine⟨hc,rfl,by simp[hN];omega,fun i=> ?_⟩
  have:=vz cK 0 i
  simp only[Nat.zero_le,if_true,Nat.sub_zero]at this
  have e:(bS.toArray++Array.replicate (fn.ntmps-bS.toArray.size) undef).getD i undef=bS.getD i undef:=by
   simp only[Array.getD_eq_getD_getElem?,List.getD_eq_getElem?_getD,Array.getElem?_append]
   by_cases hi:i<bS.length
   ·simp[hi]
   ·have:bS[i]? =none:=List.getElem?_eq_none (by omega)
    simp[hi,Array.getElem?_replicate]
    split<;>rfl
  rw[e];exact this
 refine wp_mono (hAt.wp p bl _ w _ hI hs) ?_
 rintro ex a' w' (⟨x,e',dw,hq,rfl,gy,bN⟩|⟨rfl,⟨x,e'⟩,hq,fX⟩)
 case inr=>
  refine .inr ⟨rfl,?_⟩
  unfold kR at hq
  obtain⟨⟩|⟨id⟩|⟨l⟩|⟨⟩:=x
  ·simp only at hq
   split at hq
   ·exact⟨_,hq,fX⟩
   ·exact hq.elim
  ·exact hq.elim
  ·exact hq.elim
  ·simp only at hq
   split at hq
   ·exact⟨_,hq,fX⟩
   ·exact hq.elim
 have fin:∀r,mL e'.tm fn.results.toList=some r->Q (r,e'.c)->
  a'.defers=[]∧∃v,(results fn a'.tmps).run Y.P w'= .ok v w'∧((∃sv c' v' dw,Q (sv,c')∧Ending.returned v= .returned v'∧Rel Y dw w' sv v'∧fu Y dw c' w'∧Ext Y bl dw w w'∧
   (true=false->∀o,w'.cell? ⟨Y.B,o,none⟩=w.cell? ⟨Y.B,o,none⟩))∨(Ending.returned v= .outgrown∧∃p,Q p∧Y.eM p.2.st)):=by
  intro r hr hQ
  obtain⟨v,eg,hrel⟩:=AA (a:=a') gy.rel hr
  exact⟨gy.defers,v,eg,.inl ⟨r,e'.c,v,dw,hQ,rfl,hrel,gy.core,bN,fun h=>by cases h⟩⟩
 unfold kR at hq
 obtain⟨⟩|⟨id⟩|⟨l⟩|⟨⟩:=x
 ·simp only at hq
  split at hq
  ·rename_i r hr;exact fin r hr hq
  ·exact hq.elim
 ·exact hq.elim
 ·exact hq.elim
 ·simp only at hq
  split at hq
  ·rename_i r hr;exact fin r hr hq
  ·exact hq.elim
theorem At.iT{Y:Sys}{N:Nat}{fn:Func}{b:Code}{π:Type}{F:π->E Y}{g:π->af (Ex×E Y)}(hAt:At Y N b F g){G:List SV->aq Y->af (SV×aq Y)}
 (hG:∀args c (Q:SV×aq Y->Prop),(G args c).aD Q->∃p,(F p).c=c∧(g p).aD fun xe=>(kR fn xe).aD Q):gT G:=by
 intro args c Q hb h
 obtain⟨p,rfl,hs⟩:=hG args c Q h
 obtain⟨⟨x,e'⟩,hq,fX⟩:=hAt.mono p _ hb hs
 unfold kR at hq
 obtain⟨⟩|⟨id⟩|⟨l⟩|⟨⟩:=x
 ·simp only at hq
  split at hq
  ·exact⟨_,hq,fX⟩
  ·exact hq.elim
 ·exact hq.elim
 ·exact hq.elim
 ·simp only at hq
  split at hq
  ·exact⟨_,hq,fX⟩
  ·exact hq.elim
def af.get{α:Type}(d:α):af α->α
 | .ae a=>a
 | .aj b t e=>if b=true then t.get d else e.get d
 | .aY _ k=>k.get d
 | .any t _=>t.get d
 | .fail=>d
theorem dI{α:Type}{d:α}{t:af α}{P:α->Prop}(h:t.aD P):P (t.get d):=by
 induction t with
 |ae a=>exact h
 |aj b t e iQ jH=>
  simp only[af.get]
  cases b with
  |true=>exact iQ (h.1 rfl)
  |false=>exact jH (h.2 rfl)
 |aY p k ih=>exact ih h.2
 |any t e iQ _=>exact iQ h.1
 |fail=>exact h.elim
def af.safe{α:Type}:af α->Prop
 | .ae _=>True
 | .aj b t e=>(b=true->t.safe)∧(b=false->e.safe)
 | .aY p k=>p∧k.safe
 | .any _ _=>False
 | .fail=>False
theorem qZ{α:Type}{d:α}{t:af α}{P:α->Prop}(hs:t.safe)(h:P (t.get d)):t.aD P:=by
 induction t with
 |ae a=>exact h
 |aj b t e iQ jH=>
  simp only[af.get]at h
  refine⟨fun hb=> ?_,fun hb=> ?_⟩
  ·rw[if_pos hb]at h;exact iQ (hs.1 hb) h
  ·rw[if_neg (by simp[hb])]at h;exact jH (hs.2 hb) h
 |aY p k ih=>exact⟨hs.1,ih hs.2 h⟩
 |any t e _ _=>exact hs.elim
 |fail=>exact hs.elim
def af.map{α β:Type}(f:α->β)(t:af α):af β:=t.bind fun a=> .ae (f a)
end
end Ev
end Go.Proofs.YtogkcphobhhbdaaGreatDoor
namespace Go.Proofs.YtogkcphobhhbdaaGreatDoor
open Go Go.RowKit
namespace Sc
open Ev
set_option maxRecDepth 100000
noncomputable section
def lN(st:St)(x:Raw):Prop:=x={x with aC:=st.aC,aL:=st.aL,ch:=st.ch,bD:=st.bD,mode:=st.mode,au:=st.au,line:=st.line,aM:=st.aM,blank:=st.blank,tok:=st.tok,lit:=st.lit,bad:=st.bad,kind:=st.kind,op:=st.op,prec:=st.prec,ab:=st.ab}
structure aaw(A:Ad)(st:St)(x:Raw):Prop where
 win:∃k r e,sA A x k r e∧st.p=k+r∧G8 st.b x.b k st.p
 Zb:st.ao=true->st.p=0∧x.m=0
 Zc:st.ao=false->x.m=A.O.size
 w4:st.bD<=4
 oW:lN st x
structure My(A:Ad)(st:St)(x:Raw):Prop where
 win:∃k r e,sA A x k r e∧st.p=k+r∧st.bD<=r∧G8 st.b x.b k (st.p-st.bD)
 Zb:st.ao=true->st.p=0∧x.m=0
 Zc:st.ao=false->x.m=A.O.size
 w4:st.bD<=4
 oW:lN st x
theorem My.da{A:Ad}{st:St}{x:Raw}(h:My A st x):aaw A st x:=by
 obtain⟨k,r,e,h1,h2,h3,h4⟩:=h.win
 exact⟨⟨k,r,e,h1,h2,h4.mono (by omega)⟩,h.Zb,h.Zc,h.w4,h.oW⟩
theorem EG(O:U)(line:Int):∀(f:Nat) (ao:Bool) (p:Nat) (aM:Int) (ns:List e_),(ak O line f ao p aM ns).bD<=4
 |0,_,_,_,_=>by simp[ak]
 |f+1,ao,p,aM,ns=>by
  simp only[ak]
  repeat' split
  all_goals first
   |exact EG O line f _ _ _ _
   |exact(gz O p).2
   |simp
theorem AK{A:Ad}{st:St}{x:Raw}{bx:List Value}(h:aaw A st x){K:Raw->List Value->Prop}(hK:∀x',My A (aa A.O st) x'->K x' bx):lU A 5001 x bx K:=by
 obtain⟨k,r,e,hw,hp,hb⟩:=h.win
 have hn:=hw.n
 have Vi:x={x with aC:=st.aC,aL:=st.aL,ch:=st.ch,bD:=st.bD,mode:=st.mode,au:=st.au,line:=st.line,aM:=st.aM,blank:=st.blank,tok:=st.tok,lit:=st.lit,bad:=st.bad,kind:=st.kind,op:=st.op,prec:=st.prec,ab:=st.ab}:=h.oW
 have ech:x.ch=st.ch:=by rw[Vi]
 have ahp:x.bD=st.bD:=by rw[Vi]
 have el0:x.aC=st.aC:=by rw[Vi]
 have ec0:x.aL=st.aL:=by rw[Vi]
 have ens:x.ab=st.ab:=by rw[Vi]
 have fin:∀(line aM:Int),line=aB st->aM=aS st->ED A 5000 {x with aC:=line,aL:=aM} bx K:=by
  intro line aM hl hc
  have fX:G8 st.b x.b k (k+r):=by rw[←hp];exact hb
  have hw':sA A {x with aC:=line,aL:=aM} k r e:=⟨hw.hr,hw.he,hw.re,hw.hm,hw.bs,hw.cont,hw.zY,hw.ph,hw.io,hw.n⟩
  have key:∀ao,(ao=true->x.m=0∧A.O.size≠0)->(ao=false->x.m=A.O.size)->ak A.O (aB st) (A.O.size+1) ao st.p (aS st) st.ab=ak A.O (aB st) (A.O.size+1) st.ao st.p (aS st) st.ab->ED A 5000 {x with aC:=line,aL:=aM} bx K:=by
   intro ao h1 h2 h3
   refine P_ (A.O.size+1) 5000 {x with aC:=line,aL:=aM} bx k r e ao K hw' fX h1 h2 (by omega) (by omega) (fun x' hd=>hK x' ?_)
   have Z3:adQ A st.b {x with aC:=line,aL:=aM} (ak A.O (aB st) (A.O.size+1) st.ao st.p (aS st) st.ab) x':=by
    have h4:=hd
    have e0:ak A.O line (A.O.size+1) ao (k+r) aM x.ab=ak A.O (aB st) (A.O.size+1) st.ao st.p (aS st) st.ab:=by
     rw[ens,hl,hc,←hp,h3]
    rw[show({x with aC:=line,aL:=aM}:Raw).aC=line from rfl,show({x with aC:=line,aL:=aM}:Raw).aL=aM from rfl,show({x with aC:=line,aL:=aM}:Raw).ab=x.ab from rfl,e0]at h4
    exact h4
   obtain⟨k2,r2,e2,g1,g2,g3,g4⟩:=Z3.win
   refine⟨⟨k2,r2,e2,g1,g2,g3,g4⟩,(fun h=>by cases h),fun _=>Z3.m,EG _ _ _ _ _ _ _,?_⟩
   have hs:=Z3.same
   unfold gH at hs
   unfold lN
   rw[hs,Vi,hl]
   rfl
  cases qn:st.ao with
  |false=>exact key false (fun h=>by cases h) (fun _=>h.Zc qn) (by rw[qn])
  |true=>
   obtain⟨h1,h2⟩:=h.Zb qn
   by_cases hz:A.O.size=0
   ·refine key false (fun h=>by cases h) (fun _=>by rw[h2,hz]) ?_
    have:¬st.p<A.O.size:=by omega
    simp only[ak,if_neg this]
   ·exact key true (fun _=>⟨h2,hz⟩) (fun h=>by cases h) (by rw[qn])
 unfold lU pN
 refine⟨fun h0=> ?_,fun h0=> ?_⟩
 ·have gI:st.ch=10:=by
   have:x.ch=10:=by simpa using h0
   rw[←ech];exact this
  exact fin _ _ (by rw[el0];unfold aB;rw[if_pos gI]) (by unfold aS;rw[if_pos gI])
 ·have gI:¬st.ch=10:=fun h1=>by
   have:x.ch=10:=by rw[ech];exact h1
   simp[this]at h0
  have hfin:=fin x.aC (u64 (x.aL+u64 x.bD)) (by rw[el0];unfold aB;rw[if_neg gI]) (by
   have:=h.w4
   rw[ec0,ahp,b_ (n:=(st.bD:Int)) (by omega) (by omega)];unfold aS;rw[if_neg gI])
  exact hfin
def Mz(st:St):Nat->Option SV
 |1=>some (.fn 0)
 |9=>some (.val (.int .i32 st.ch))
 |11=>some (.val (.int .u64 st.mode))
 |12=>some (.val (.bool st.au))
 |13=>some (.val (.int .u64 st.line))
 |14=>some (.val (.int .u64 st.aM))
 |15=>some (.val (.bool st.blank))
 |16=>some (.val (.int .u64 st.tok))
 |17=>some (.val (.string st.lit))
 |18=>some (.val (.bool st.bad))
 |19=>some (.val (.int .u8 st.kind))
 |20=>some (.val (.int .u64 st.op))
 |21=>some (.val (.int .i64 st.prec))
 |_=>none
def sset(st:St)(o:Nat)(v:SV):Option St:=
 match o with
 |12=>(gk v).map fun n=>{st with au:=n}
 |13=>(fh .u64 v).map fun n=>{st with line:=n}
 |14=>(fh .u64 v).map fun n=>{st with aM:=n}
 |15=>(gk v).map fun n=>{st with blank:=n}
 |16=>(fh .u64 v).map fun n=>{st with tok:=n}
 |17=>(Ec v).map fun n=>{st with lit:=n}
 |18=>(gk v).map fun n=>{st with bad:=n}
 |19=>(fh .u8 v).map fun n=>{st with kind:=n}
 |20=>(fh .u64 v).map fun n=>{st with op:=n}
 |21=>(fh .i64 v).map fun n=>{st with prec:=n}
 |_=>none
def jm(A:Ad)(st:St)(w:World):Prop:=∃x,fa A x w∧My A st x
def SY(A:Ad):Ev.Sys:=mQ A A.buf St Mz sset (jm A) (·.ab) (fun _ _ _=>none) (fun _ _ _ _=>none) (fun _ _=>True) (fun _ _ _ _=>True)
theorem Qd{st:St}{x:Raw}(h:lN st x){o:Nat}{sv:SV}(hg:Mz st o=some sv):HP x o=some sv:=by
 unfold lN at h
 unfold Mz at hg
 split at hg
 all_goals first
  |(cases hg;done)
  |(rw[h];exact hg)
theorem Qe{A:Ad}{st aO:St}{x:Raw}(h:My A st x){o:Nat}{sv:SV}(hs:sset st o sv=some aO):∃x',xQ x o sv=some x'∧My A aO x':=by
 have hw:=h.win
 have h1:=h.Zb
 have h2:=h.Zc
 have h3:=h.w4
 have hf:lN st x:=h.oW
 unfold lN at hf
 have ahr:∀y:Raw,y.buf=x.buf->y.io=x.io->y.b=x.b->y.r=x.r->y.e=x.e->y.m=x.m->∃k r e,sA A y k r e∧st.p=k+r∧st.bD<=r∧G8 st.b y.b k (st.p-st.bD):=by
  intro y e1 e2 e3 e4 e5 e6
  obtain⟨k,r,e,g1,g2,g3,g4⟩:=hw
  exact⟨k,r,e,g1.with e1 e2 e5 e6 (by rw[e4];exact g1.hr) g1.re,g2,g3,by rw[e3];exact g4⟩
 unfold sset at hs
 split at hs
 all_goals first
  |(cases hs;done)
  |(obtain⟨n,hn,rfl⟩:=Option.map_eq_some_iff.1 hs
    refine⟨_,by simp only[xQ,hn,Option.map_some];rfl,?_⟩
    refine⟨ahr _ rfl rfl rfl rfl rfl rfl,h1,h2,h3,?_⟩
    unfold lN
    rw[hf])
theorem Kf{A:Ad}{st:St}{w:World}{o:Nat}{sv:SV}(h:jm A st w)(hg:Mz st o=some sv):∃v,w.cell? ⟨A.s,o,none⟩=some v∧∀bl,Rel (SY A) bl w sv v:=by
 obtain⟨x,hx,ha⟩:=h
 exact J2 hx (Qd ha.oW hg)
theorem Vj{A:Ad}{st aO:St}{w:World}{o:Nat}{sv:SV}{v:Value}(h:jm A st w)(hs:sset st o sv=some aO)(hv:nw (SY A) sv v):
 (∃u,w.cell? ⟨A.s,o,none⟩=some u)∧w.frozen? ⟨A.s,o,none⟩=false∧v.cells=#[v]∧(∀l,v≠ .tuple l)∧(∀l,v≠ .agg l)∧jm A aO (w.setCell ⟨A.s,o,none⟩ v):=by
 obtain⟨x,hx,ha⟩:=h
 obtain⟨x',hr,Qf⟩:=Qe ha hs
 obtain⟨g1,g2,g3,g4,g5,g6⟩:=Cm hx hr (v:=v) hv
 exact⟨g1,g2,g3,g4,g5,x',g6,Qf⟩
theorem Vk{st aO:St}{o:Nat}{sv:SV}(h:sset st o sv=some aO)(hs:storable sv=false):False:=by
 unfold sset at h
 split at h
 all_goals first
  |(cases h;done)
  |(obtain⟨n,hn,_⟩:=Option.map_eq_some_iff.1 h
    first|exact sf hn hs|exact Ef hn hs|exact um hn hs)
theorem Ic{st aO:St}{o:Nat}{sv:SV}(h:sset st o sv=some aO):aO.ab=st.ab:=by
 unfold sset at h
 split at h
 all_goals first
  |(cases h;done)
  |(obtain⟨n,hn,rfl⟩:=Option.map_eq_some_iff.1 h;rfl)
theorem db(A:Ad)(hA:A.Ok):Laws (SY A):=
 Co A hA A.buf (.inl rfl) St Mz sset (jm A) (·.ab) _ _ _ _ (fun⟨x,hx,_⟩=>⟨x,hx⟩) Kf Vj Vk Ic (fun⟨x,hx,ha⟩ hk=>⟨x,hx.kept hk,ha⟩) (fun _ h=>by cases h) (fun h=>by cases h) (fun h=>by cases h) (fun _ h=>by cases h) (fun h=>by cases h)
theorem aax{A:Ad}{bl dw:List Nat}{w w':World}(h:Ext (RY A) bl dw w w'):Ext (SY A) bl dw w w':=⟨⟨h.fr.os,h.fr.tape,h.fr.output,h.fr.size,h.fr.ty,h.fr.bm⟩,h.pre,h.new⟩
theorem aay{A:Ad}{bl:List Nat}{w:World}{sv:SV}{v:Value}(h:Rel (RY A) bl w sv v):Rel (SY A) bl w sv v:=by
 cases sv<;>exact h
theorem Vl{A:Ad}{bl:List Nat}{w:World}{args:List SV}{bS:List Value}(h:oM (SY A) bl w args bS):oM (RY A) bl w args bS:=by
 induction h with
 |nil=>exact .nil
 |cons h1 _ ih=>
  rename_i sv v l vs _
  refine .cons ?_ ih
  cases sv<;>exact h1
theorem AL{A:Ad}{st:St}{x:Raw}(h:My A st x):x.ab=st.ab:=by
 have h:lN st x:=h.oW
 unfold lN at h
 rw[h]
theorem lV{A:Ad}{f:FuncId}{kQ:Array Value}{iR:Bool}{gR:List SV->aq (RY A)->af (SV×aq (RY A))}(h:fg (RY A) f kQ iR gR){gS:List SV->aq (SY A)->af (SV×aq (SY A))}
 (hg:∀args st bx x (Q:SV×aq (SY A)->Prop),My A st x->(gS args ⟨st,bx⟩).aD Q->(gR args ⟨x,bx⟩).aD fun p=>∃aO,My A aO p.2.st∧Q (p.1,⟨aO,p.2.bx⟩)):fg (SY A) f kQ iR gS:=by
 intro args c bl w bS Q cK hc hs
 obtain⟨x,hx,ha⟩:=hc.inv
 have rQ:fu (RY A) bl ⟨x,c.bx⟩ w:=⟨hx,hc.len,hc.nd,hc.cell,hc.free⟩
 refine(h args ⟨x,c.bx⟩ bl w bS _ (Vl cK) rQ (hg args c.st c.bx x Q ha hs)).mono ?_
 rintro e w' (⟨sv,c',v,dw,⟨aO,Qf,hq⟩,rfl,hrel,hinv,bN,hd⟩|⟨rfl,p,⟨aO,Qf,hq⟩,hb⟩)
 ·exact .inl ⟨sv,⟨aO,c'.bx⟩,v,dw,hq,rfl,aay hrel,⟨⟨c'.st,hinv.inv,Qf⟩,hinv.len,hinv.nd,hinv.cell,hinv.free⟩,aax bN,hd⟩
 ·refine .inr ⟨rfl,_,hq,?_⟩
  have fX:zR<=p.2.st.ab.length:=hb
  show zR<=aO.ab.length
  rw[←AL Qf]
  exact fX
abbrev unit:SV:= .val (.tuple #[])
def oX(A:Ad)(P:St->Prop)(f:St->St)(args:List SV)(c:aq (SY A)):af (SV×aq (SY A)):=
 match args with
 |[.st 0]=> .aY (P c.st) (.ae (unit,⟨f c.st,c.bx⟩))
 |_=> .fail
theorem AM{A:Ad}{P:St->Prop}{f:St->St}(hf:∀st,st.ab.length<=(f st).ab.length):gT (Y:=SY A) (oX A P f):=by
 intro args c Q hb h
 unfold oX at h
 split at h
 ·exact⟨_,h.2,Nat.le_trans hb (hf c.st)⟩
 ·exact h.elim
def oE(A:Ad)(f:St->St)(args:List SV)(c:aq (SY A)):af (SV×aq (SY A)):=
 match args with
 |[.st 0]=> .ae (unit,⟨f c.st,c.bx⟩)
 |_=> .fail
theorem nL{A:Ad}{f:St->St}(hf:∀st,st.ab.length<=(f st).ab.length):gT (Y:=SY A) (oE A f):=by
 intro args c Q hb h
 unfold oE at h
 split at h
 ·exact⟨_,h,Nat.le_trans hb (hf c.st)⟩
 ·exact h.elim
theorem gA(O:U)(line:Int):∀(f:Nat) (ao:Bool) (p:Nat) (aM:Int) (ns:List e_),∃l,(ak O line f ao p aM ns).ab=ns++l
 |0,_,_,_,ns=>⟨[],by simp[ak]⟩
 |f+1,ao,p,aM,ns=>by
  have step:∀(p:Nat) (aM:Int) (ao:Bool) (more:List e_),∃l,(ak O line f ao p aM (ns++more)).ab=ns++l:=fun p aM ao more=>by
   obtain⟨l,hl⟩:=gA O line f ao p aM (ns++more)
   exact⟨more++l,by rw[hl,List.append_assoc]⟩
  simp only[ak]
  repeat' split
  all_goals first
   |exact step _ _ _ _
   |exact gA O line f _ _ _ ns
   |exact⟨[],by simp⟩
theorem nM(O:U)(st:St):∃l,(aa O st).ab=st.ab++l:=gA _ _ _ _ _ _ _
theorem kZ(O:U)(st:St):st.ab.length<=(aa O st).ab.length:=by
 obtain⟨l,hl⟩:=nM O st
 rw[hl,List.length_append];omega
def Qg(A:Ad):ej (SY A):=⟨61,#[],true,oE A (aa A.O)⟩
theorem Qh(A:Ad)(hA:A.Ok):(Qg A).Ok:=by
 refine⟨fun args w=>by kernel_rfl,lV (Kc A hA) (fun args st bx x Q ha h=> ?_),nL (A:=A) (f:=aa A.O) (kZ A.O)⟩
 unfold Qg oE at h
 simp only at h
 split at h
 ·refine an (EA A hA (AK (K:=fun x' Y8=>My A (aa A.O st) x'∧Y8=bx) ha.da (fun x' Qf=>⟨Qf,rfl⟩))) ?_
  rintro⟨sv,c'⟩ ⟨h1,h2,h3⟩
  simp only at h1 h2 h3
  subst h1 h3
  exact⟨_,h2,h⟩
 ·exact h.elim
theorem Qi(A:Ad)(x:Raw)(bx:List Value):eh (H0 A Tryz.f62.ntmps) Tryz.f62 [.st 0] ⟨x,bx⟩= .ae (unit,⟨{x with b:=pM (x.r-x.bD)},bx⟩):=by kernel_rfl
theorem Vm(A:Ad)(x:Raw)(bx:List Value):eh (H0 A Tryz.f59.ntmps) Tryz.f59 [.st 0] ⟨x,bx⟩= .ae (unit,⟨{x with b:= -1},bx⟩):=by kernel_rfl
theorem Ie(A:Ad)(x:Raw)(bx:List Value):eh (H0 A Tryz.f89.ntmps) Tryz.f89 [.st 0] ⟨x,bx⟩=
 .aY (0<=x.b∧x.b<=pM (x.r-x.bD)∧pM (x.r-x.bD)<=x.buf.size) (.ae (.fG (x.buf.extract x.b.toNat (pM (x.r-x.bD)).toNat),⟨x,bx⟩)):=by kernel_rfl
theorem EH{st:St}{x:Raw}(h:lN st x):x.bD=st.bD:=by unfold lN at h;rw[h]
def Ig(A:Ad):ej (SY A):=⟨62,#[],true,oE A start⟩
theorem MA(A:Ad)(hA:A.Ok):(Ig A).Ok:=by
 refine⟨fun args w=>by kernel_rfl,lV (fM (kT A hA) (sr A hA Tryz.f62.ntmps) Tryz.func62) (fun args st bx x Q ha h=> ?_),nL (A:=A) (f:=start) (fun st=>Nat.le_refl _)⟩
 unfold Ig oE at h
 simp only at h
 split at h
 ·rw[Qi]
  refine⟨_,?_,h⟩
  obtain⟨k,r,e,g1,g2,g3,g4⟩:=ha.win
  have hel:=g1.zZ;have Vg:=g1.re
  have hb:pM (x.r-x.bD)=((r-st.bD:Nat):Int):=by rw[g1.hr,EH ha.oW,kY (by omega) (by omega)];omega
  refine⟨⟨k,r,e,⟨g1.hr,g1.he,g1.re,g1.hm,g1.bs,g1.cont,g1.zY,g1.ph,g1.io,g1.n⟩,g2,g3,r-st.bD,hb,by show st.p-st.bD=_;omega,Nat.le_refl _⟩,ha.Zb,ha.Zc,ha.w4,?_⟩
  have hf:lN st x:=ha.oW
  unfold lN at*
  rw[hf];rfl
 ·exact h.elim
def Qj(A:Ad):ej (SY A):=⟨59,#[],true,oE A stop⟩
theorem Qk(A:Ad)(hA:A.Ok):(Qj A).Ok:=by
 refine⟨fun args w=>by kernel_rfl,lV (fM (kT A hA) (sr A hA Tryz.f59.ntmps) Tryz.func59) (fun args st bx x Q ha h=> ?_),nL (A:=A) (f:=stop) (fun st=>Nat.le_refl _)⟩
 unfold Qj oE at h
 simp only at h
 split at h
 ·rw[Vm]
  refine⟨_,?_,h⟩
  obtain⟨k,r,e,g1,g2,g3,g4⟩:=ha.win
  refine⟨⟨k,r,e,⟨g1.hr,g1.he,g1.re,g1.hm,g1.bs,g1.cont,g1.zY,g1.ph,g1.io,g1.n⟩,g2,g3,rfl⟩,ha.Zb,ha.Zc,ha.w4,?_⟩
  have hf:lN st x:=ha.oW
  unfold lN at*
  rw[hf];rfl
 ·exact h.elim
theorem fx{a b:U}(hs:a.size=b.size)(h:∀j,j<a.size->a.get! j=b.get! j):a=b:=by
 apply ByteArray.ext
 apply Array.ext
 ·exact hs
 ·intro i h1 h2
  have Kb:i<a.size:=h1
  have:=h i Kb
  have e1:a.get! i=a.data[i]:=by show a.data[i]! =_;rw[getElem!_pos _ i h1]
  have e2:b.get! i=b.data[i]:=by show b.data[i]! =_;rw[getElem!_pos _ i h2]
  rw[←e1,←e2];exact this
def aaz(A:Ad)(args:List SV)(c:aq (SY A)):af (SV×aq (SY A)):=
 match args with
 |[.st 0]=> .aY (c.st.b.isSome=true) (.ae (.fG (fG A.O c.st),c))
 |_=> .fail
def Vn(A:Ad):ej (SY A):=⟨89,#[],true,aaz A⟩
theorem Vo(A:Ad)(hA:A.Ok):(Vn A).Ok:=by
 refine⟨fun args w=>by kernel_rfl,lV (fM (kT A hA) (sr A hA Tryz.f89.ntmps) Tryz.func89) (fun args st bx x Q ha h=> ?_),?_⟩
 ·unfold Vn aaz at h
  simp only at h
  split at h
  ·rw[Ie]
   obtain⟨hb,hq⟩:=h
   obtain⟨k,r,e,g1,g2,g3,g4⟩:=ha.win
   have hel:=g1.zZ;have Vg:=g1.re;have wH:=g1.bs;have hn:=g1.n;have hm:=g1.hm
   have Uz:k+e<=A.O.size:=by rcases g1.ph with h|h<;>omega
   have hw:pM (x.r-x.bD)=((r-st.bD:Nat):Int):=by rw[g1.hr,EH ha.oW,kY (by omega) (by omega)];omega
   obtain⟨c,hc⟩:=Option.isSome_iff_exists.1 hb
   rw[hc]at g4
   obtain⟨d,d1,d2,d3⟩:=g4
   have es:x.buf.extract x.b.toNat (pM (x.r-x.bD)).toNat=fG A.O st:=by
    unfold fG
    rw[hc,Option.getD_some,hw,d1,Int.toNat_natCast,Int.toNat_natCast]
    refine fx ?_ (fun j hj=> ?_)
    ·rw[aA _ _ _ (by omega),aA _ _ _ (by omega)];omega
    ·rw[aA _ _ _ (by omega)]at hj
     rw[a7 _ _ _ _ (by omega) hj,a7 _ _ _ _ (by omega) (by omega),g1.cont _ (by omega),d2,Nat.add_assoc]
   refine⟨⟨by omega,by rw[hw,d1];omega,by rw[hw,wH];omega⟩,st,ha,?_⟩
   rw[es]
   exact hq
  ·exact h.elim
 ·intro args c Q hb h
  unfold Vn aaz at h
  simp only at h
  split at h
  ·exact⟨_,h.2,hb⟩
  ·exact h.elim
def Ql(A:Ad)(args:List SV)(c:aq (SY A)):af (SV×aq (SY A)):=
 match args with
 |[.st 0]=> .ae (.val (.tuple #[.int .u64 (u64 (1+c.st.aC)),.int .u64 (u64 (1+c.st.aL))]),c)
 |_=> .fail
theorem oY{st:St}{x:Raw}(h:lN st x):x.aC=st.aC∧x.aL=st.aL:=by unfold lN at h;rw[h];exact⟨rfl,rfl⟩
def Kg(A:Ad):ej (SY A):=⟨60,#[],true,Ql A⟩
theorem Qm(A:Ad)(hA:A.Ok):(Kg A).Ok:=by
 refine⟨fun args w=>by kernel_rfl,lV (J8 A hA).ok (fun args st bx x Q ha h=> ?_),?_⟩
 ·unfold Kg Ql at h
  unfold Vd PV
  simp only at h⊢
  split at h
  ·refine⟨st,ha,?_⟩
   rw[(oY ha.oW).1,(oY ha.oW).2]
   exact h
  ·exact h.elim
 ·intro args c Q hb h
  unfold Kg Ql at h
  simp only at h
  split at h
  ·exact⟨_,h,hb⟩
  ·exact h.elim
def Qn(A:Ad)(args:List SV)(c:aq (SY A)):af (SV×aq (SY A)):=
 match args with
 |[.st 0,.val (.string m)]=> .ae (unit,⟨error m c.st,c.bx⟩)
 |_=> .fail
theorem EI{A:Ad}{st:St}{x:Raw}(ha:My A st x)(n:e_):My A {st with ab:=st.ab++[n]} (pL x n):=by
 obtain⟨k,r,e,g1,g2,g3,g4⟩:=ha.win
 refine⟨⟨k,r,e,⟨g1.hr,g1.he,g1.re,g1.hm,g1.bs,g1.cont,g1.zY,g1.ph,g1.io,g1.n⟩,g2,g3,g4⟩,ha.Zb,ha.Zc,ha.w4,?_⟩
 have hf:lN st x:=ha.oW
 unfold lN pL at*
 rw[hf]
def Kh(A:Ad):ej (SY A):=⟨84,#[],true,Qn A⟩
theorem Qo(A:Ad)(hA:A.Ok):(Kh A).Ok:=by
 refine⟨fun args w=>by kernel_rfl,lV (J_ A hA).ok (fun args st bx x Q ha h=> ?_),?_⟩
 ·unfold Kh Qn at h
  unfold aao PX
  simp only at h⊢
  split at h
  ·refine⟨_,EI ha _,?_⟩
   simp only[(oY ha.oW).1,(oY ha.oW).2]
   exact h
  ·exact h.elim
 ·intro args c Q hb h
  unfold Kh Qn at h
  simp only at h
  split at h
  ·refine⟨_,h,?_⟩
   have:zR<=c.st.ab.length:=hb
   show zR<=(c.st.ab++[_]).length
   rw[List.length_append];omega
  ·exact h.elim
def aaA(A:Ad)(args:List SV)(c:aq (SY A)):af (SV×aq (SY A)):=
 match args with
 |[.val (.int .u64 l),.val (.int .u64 k),.val (.string m)]=> .ae (unit,⟨iG l k m c.st,c.bx⟩)
 |_=> .fail
def Qp(A:Ad):ej (SY A):=⟨47,#[.pointer (some ⟨A.e,0,none⟩)],false,aaA A⟩
theorem Vp(A:Ad)(hA:A.Ok):(Qp A).Ok:=by
 refine⟨fun args w=>by kernel_rfl,lV (xW A hA).ok (fun args st bx x Q ha h=> ?_),?_⟩
 ·unfold Qp aaA at h
  unfold AE AB
  simp only at h⊢
  split at h
  ·exact⟨_,EI ha _,h⟩
  ·exact h.elim
 ·intro args c Q hb h
  unfold Qp aaA at h
  simp only at h
  split at h
  ·refine⟨_,h,?_⟩
   have:zR<=c.st.ab.length:=hb
   show zR<=(c.st.ab++[_]).length
   rw[List.length_append];omega
  ·exact h.elim
def nG(A:Ad)(args:List SV)(c:aq (RY A)):af (SV×aq (RY A)):=eh (su A) Tryz.f61 args c
def rnS(A:Ad):ej (RY A):=⟨61,#[],true,nG A⟩
theorem aaB(A:Ad)(hA:A.Ok):(rnS A).Ok:=⟨fun args w=>by kernel_rfl,Kc A hA,Mu A hA⟩
def Qq(A:Ad)(N:Nat):eS (RY A):=⟨N,[(61,rnS A)],[],[],[],[],0⟩
theorem Ki(A:Ad)(hA:A.Ok)(N:Nat):(Qq A N).Ok where
 uf:=fun p hp=>by
  obtain rfl:p=(61,rnS A):=by simpa[Qq] using hp
  exact⟨aaB A hA,rfl,rfl⟩
 still:=fun p hp h=>by cases h
 fns:=fun p hp=>by cases hp
 rX:=fun p hp=>by cases hp
def q7:Code:=av Tryz.f71
def Zd(x:Raw):Raw:={x with aL:=u64 (x.aL-u64 (pM (x.r-x.b))),r:=x.b}
theorem Vq:(Tryz.f71).body=some q7:=by kernel_rfl
theorem aaC:jw 3 q7=true:=by kernel_rfl
theorem Vr(A:Ad)(x:Raw)(bx:List Value):(az (Qq A Tryz.f71.ntmps) (ck 3 q7) ⟨⟨x,bx⟩,[(0,.st 0)]⟩).bind (fun xe=> .ae (xe.1,cU [0] xe.2))=
 .aj (decide (x.b<0)) .fail (.ae (.normal,⟨⟨Zd x,bx⟩,[(0,.st 0)]⟩)):=by kernel_rfl
def aht(A:Ad)(g:List SV->aq (RY A)->af (SV×aq (RY A)))(N:Nat):eS (RY A):=⟨N,[(61,⟨61,#[],true,g⟩)],[],[],[],[],0⟩
theorem Vs(A:Ad)(g:List SV->aq (RY A)->af (SV×aq (RY A)))(x:Raw)(bx:List Value):az (aht A g Tryz.f71.ntmps) (ah 3 q7) ⟨⟨x,bx⟩,[(0,.st 0)]⟩=
 ((((g [.st 0] ⟨x,bx⟩).bind fun p=> .ae (p.1,p.2,true)).bind fun p=> .ae ⟨p.2.1,oH (some 33) p.1 (bif p.2.2 then clean [(32,.st 0),(0,.st 0)]else [(32,.st 0),(0,.st 0)])⟩).bind fun e'=> .ae (.normal,e')):=by kernel_rfl
theorem adT(A:Ad)(hA:A.Ok):At (RY A) Tryz.f71.ntmps q7 (fun p:Raw×List Value=>⟨⟨p.1,p.2⟩,[(0,.st 0)]⟩)
 (fun p=> .aj (decide (p.1.b<0)) .fail ((nG A [.st 0] ⟨Zd p.1,p.2⟩).bind fun q=> .ae (.normal,⟨q.2,[]⟩))):=by
 refine At.cut (kT A hA) (Ki A hA Tryz.f71.ntmps) 3 aaC (F':=fun p:Raw×List Value=>⟨⟨p.1,p.2⟩,[(0,.st 0)]⟩) (gb:=fun p=>(nG A [.st 0] ⟨p.1,p.2⟩).bind fun q=> .ae (.normal,⟨q.2,[]⟩)) ?_ ?_
 ·refine At.ev (kT A hA) (Ki A hA Tryz.f71.ntmps) (fun p Q h=> ?_)
  have e:az (Qq A Tryz.f71.ntmps) (ah 3 q7) ⟨⟨p.1,p.2⟩,[(0,.st 0)]⟩=_:=Vs A (nG A) p.1 p.2
  rw[e]
  simp only[ax]at h⊢
  refine an h (fun q hq=>⟨⟨q.2,[]⟩,⟨rfl,fun i=> .inl rfl⟩,hq⟩)
 ·rintro p Q ⟨h1,h2⟩
  have key:((az (Qq A Tryz.f71.ntmps) (ck 3 q7) ⟨⟨p.1,p.2⟩,[(0,.st 0)]⟩).bind (fun xe=> .ae (xe.1,cU [0] xe.2))).aD (fun xe=>xe.1= .normal∧xe.2=⟨⟨Zd p.1,p.2⟩,[(0,.st 0)]⟩∧((nG A [.st 0] ⟨Zd p.1,p.2⟩).bind fun q=> .ae (.normal,⟨q.2,[]⟩)).aD Q):=by
   rw[Vr]
   exact⟨fun h=>(h1 h).elim,fun h=>⟨rfl,rfl,h2 h⟩⟩
  rw[ax]at key
  refine an key ?_
  rintro⟨ex,e⟩ ⟨k1,k2,k3⟩
  simp only at k1 k2⊢
  subst k1
  exact⟨(Zd p.1,p.2),by rw[←k2];exact iU _ _,k3⟩
def aaD(A:Ad):ej (SY A):=⟨71,#[],true,oX A (fun st=>st.b.isSome=true) (cd A.O)⟩
theorem Ih(O:U)(st:St):st.ab.length<=(cd O st).ab.length:=kZ O {st with p:=st.b.getD 0,aL:=u64 (st.aL-u64 ((st.p:Int)-(st.b.getD 0:Nat)))}
def adU(A:Ad)(args:List SV)(c:aq (RY A)):af (SV×aq (RY A)):=
 match args with
 |[.st 0]=> .aj (decide (c.st.b<0)) .fail ((nG A [.st 0] ⟨Zd c.st,c.bx⟩).bind fun q=> .ae (unit,q.2))
 |_=> .fail
theorem Vt(A:Ad)(hA:A.Ok):fg (RY A) 71 #[] true (adU A):=by
 refine At.fn (Y:=RY A) Tryz.func71 Vq (N:=Tryz.f71.ntmps) rfl (π:=Raw×List Value) (arg:=fun _=>[.st 0]) (core:=fun p=>⟨p.1,p.2⟩) (fun _=>by decide) (adT A hA) (fun args c Q h=> ?_)
 unfold adU at h
 split at h
 ·refine⟨(c.st,c.bx),rfl,rfl,h.1,fun h0=> ?_⟩
  have h1:=h.2 h0
  rw[ax]at h1⊢
  exact h1
 ·exact h.elim
theorem Vu(A:Ad)(hA:A.Ok):(aaD A).Ok:=by
 refine⟨fun args w=>by kernel_rfl,lV (Vt A hA) (fun args st bx x Q ha h=> ?_),AM (A:=A) (P:=fun st=>st.b.isSome=true) (f:=cd A.O) (Ih A.O)⟩
 unfold aaD oX at h
 simp only at h
 split at h
 ·obtain⟨hb,hq⟩:=h
  obtain⟨k,r,e,g1,g2,g3,g4⟩:=ha.win
  have hel:=g1.zZ;have Vg:=g1.re
  obtain⟨c,hc⟩:=Option.isSome_iff_exists.1 hb
  have g4':=g4
  rw[hc]at g4'
  obtain⟨d,d1,d2,d3⟩:=g4'
  have hf:lN st x:=ha.oW
  refine⟨fun h0=> ?_,fun _=> ?_⟩
  ·have:x.b<0:=of_decide_eq_true h0
   omega
  ·rw[ax]
   have ew:pM (x.r-x.b)=(st.p:Int)-(st.b.getD 0:Nat):=by
    rw[g1.hr,d1,kY (by omega) (by omega),hc,Option.getD_some];omega
   have ha0:aaw A {st with p:=st.b.getD 0,aL:=u64 (st.aL-u64 ((st.p:Int)-(st.b.getD 0:Nat)))} (Zd x):=by
    refine⟨⟨k,d,e,⟨d1,g1.he,by omega,g1.hm,g1.bs,g1.cont,g1.zY,g1.ph,g1.io,g1.n⟩,by show st.b.getD 0=_;rw[hc];exact d2,?_⟩,?_,ha.Zc,ha.w4,?_⟩
    ·show G8 st.b x.b k (st.b.getD 0)
     rw[hc,Option.getD_some]
     exact⟨d,d1,d2,Nat.le_refl _⟩
    ·intro h
     obtain⟨f1,f2⟩:=ha.Zb h
     refine⟨?_,f2⟩
     show st.b.getD 0=0
     rw[hc,Option.getD_some];omega
    ·have Qb:=(oY ha.oW).2
     unfold lN at*
     unfold Zd
     rw[ew,Qb]
     rw[hf]
   refine an (EA A hA (AK (K:=fun x' Y8=>My A (cd A.O st) x'∧Y8=bx) ha0 (fun x' Qf=>⟨Qf,rfl⟩))) ?_
   rintro⟨sv,c'⟩ ⟨h1,h2,h3⟩
   simp only at h1 h2 h3
   subst h3
   exact⟨_,h2,hq⟩
 ·exact h.elim
end
end Sc
end Go.Proofs.YtogkcphobhhbdaaGreatDoor
namespace Go.Proofs.YtogkcphobhhbdaaGreatDoor
open Go Go.RowKit Go.Lib
namespace Sc
set_option maxRecDepth 100000
noncomputable section
def Qr:U:=⟨#[69,79,70,110,97,109,101,108,105,116,101,114,97,108,111,112,111,112,61,111,112,111,112,61,58,61,60,45,42,40,91,123,41,93,125,44,59,58,46,46,46,46,98,114,101,97,107,99,97,115,101,99,104,97,110,99,111,110,115,116,99,111,110,116,105,110,117,101,100,101,102,97,117,108,116,100,101,102,101,114,101,108,115,101,102,97,108,108,116,104,114,111,117,103,104,102,111,114,102,117,110,99,103,111,103,111,116,111,105,102,105,109,112,111,114,116,105,110,116,101,114,102,97,99,101,109,97,112,112,97,99,107,97,103,101,114,97,110,103,101,114,101,116,117,114,110,115,101,108,101,99,116,115,116,114,117,99,116,115,119,105,116,99,104,116,121,112,101,118,97,114]⟩
def vI(i:Nat):Nat:=[0,3,7,14,16,19,23,24,26,28,29,30,31,32,33,34,35,36,37,38,39,42,47,51,55,60,68,75,80,84,95,98,102,104,108,110,116,125,128,135,140,146,152,158,164,168,171,171].getD i 0
def aH(t:Nat):U:=Qr.extract (vI (t-1)) (vI t)
theorem aU{w:World}(n:Nat):Below w.heap.size w (w.drewN n):=by
 have h:Below w.heap.size w w:=Below.refl _ _
 exact⟨h.os,h.tape,h.output,h.size,h.block⟩
theorem MB(w:World)(c1:w.cell? ⟨0,21,none⟩=some (.int .u8 42))(c2:w.cell? ⟨0,22,none⟩=some (.int .u8 47)):
 Calls Tryz.prog 92 #[.int .u64 22] w fun e w'=>e= .returned (.string (aH 22))∧Below w.heap.size w w':=by
 go_enter Tryz.func92,Tryz.ntmps92
 go_wp2_with fail
 go_quiet (fail)
 go_wp2_with fail
 go_ret
 exact⟨rfl,aU _⟩
theorem MC(w:World)(c1:w.cell? ⟨0,22,none⟩=some (.int .u8 47))(c2:w.cell? ⟨0,23,none⟩=some (.int .u8 51)):
 Calls Tryz.prog 92 #[.int .u64 23] w fun e w'=>e= .returned (.string (aH 23))∧Below w.heap.size w w':=by
 go_enter Tryz.func92,Tryz.ntmps92
 go_wp2_with fail
 go_quiet (fail)
 go_wp2_with fail
 go_ret
 exact⟨rfl,aU _⟩
theorem MD(w:World)(c1:w.cell? ⟨0,23,none⟩=some (.int .u8 51))(c2:w.cell? ⟨0,24,none⟩=some (.int .u8 55)):
 Calls Tryz.prog 92 #[.int .u64 24] w fun e w'=>e= .returned (.string (aH 24))∧Below w.heap.size w w':=by
 go_enter Tryz.func92,Tryz.ntmps92
 go_wp2_with fail
 go_quiet (fail)
 go_wp2_with fail
 go_ret
 exact⟨rfl,aU _⟩
theorem ME(w:World)(c1:w.cell? ⟨0,24,none⟩=some (.int .u8 55))(c2:w.cell? ⟨0,25,none⟩=some (.int .u8 60)):
 Calls Tryz.prog 92 #[.int .u64 25] w fun e w'=>e= .returned (.string (aH 25))∧Below w.heap.size w w':=by
 go_enter Tryz.func92,Tryz.ntmps92
 go_wp2_with fail
 go_quiet (fail)
 go_wp2_with fail
 go_ret
 exact⟨rfl,aU _⟩
theorem MF(w:World)(c1:w.cell? ⟨0,25,none⟩=some (.int .u8 60))(c2:w.cell? ⟨0,26,none⟩=some (.int .u8 68)):
 Calls Tryz.prog 92 #[.int .u64 26] w fun e w'=>e= .returned (.string (aH 26))∧Below w.heap.size w w':=by
 go_enter Tryz.func92,Tryz.ntmps92
 go_wp2_with fail
 go_quiet (fail)
 go_wp2_with fail
 go_ret
 exact⟨rfl,aU _⟩
theorem MG(w:World)(c1:w.cell? ⟨0,26,none⟩=some (.int .u8 68))(c2:w.cell? ⟨0,27,none⟩=some (.int .u8 75)):
 Calls Tryz.prog 92 #[.int .u64 27] w fun e w'=>e= .returned (.string (aH 27))∧Below w.heap.size w w':=by
 go_enter Tryz.func92,Tryz.ntmps92
 go_wp2_with fail
 go_quiet (fail)
 go_wp2_with fail
 go_ret
 exact⟨rfl,aU _⟩
theorem MH(w:World)(c1:w.cell? ⟨0,27,none⟩=some (.int .u8 75))(c2:w.cell? ⟨0,28,none⟩=some (.int .u8 80)):
 Calls Tryz.prog 92 #[.int .u64 28] w fun e w'=>e= .returned (.string (aH 28))∧Below w.heap.size w w':=by
 go_enter Tryz.func92,Tryz.ntmps92
 go_wp2_with fail
 go_quiet (fail)
 go_wp2_with fail
 go_ret
 exact⟨rfl,aU _⟩
theorem MI(w:World)(c1:w.cell? ⟨0,28,none⟩=some (.int .u8 80))(c2:w.cell? ⟨0,29,none⟩=some (.int .u8 84)):
 Calls Tryz.prog 92 #[.int .u64 29] w fun e w'=>e= .returned (.string (aH 29))∧Below w.heap.size w w':=by
 go_enter Tryz.func92,Tryz.ntmps92
 go_wp2_with fail
 go_quiet (fail)
 go_wp2_with fail
 go_ret
 exact⟨rfl,aU _⟩
theorem MJ(w:World)(c1:w.cell? ⟨0,29,none⟩=some (.int .u8 84))(c2:w.cell? ⟨0,30,none⟩=some (.int .u8 95)):
 Calls Tryz.prog 92 #[.int .u64 30] w fun e w'=>e= .returned (.string (aH 30))∧Below w.heap.size w w':=by
 go_enter Tryz.func92,Tryz.ntmps92
 go_wp2_with fail
 go_quiet (fail)
 go_wp2_with fail
 go_ret
 exact⟨rfl,aU _⟩
theorem MK(w:World)(c1:w.cell? ⟨0,30,none⟩=some (.int .u8 95))(c2:w.cell? ⟨0,31,none⟩=some (.int .u8 98)):
 Calls Tryz.prog 92 #[.int .u64 31] w fun e w'=>e= .returned (.string (aH 31))∧Below w.heap.size w w':=by
 go_enter Tryz.func92,Tryz.ntmps92
 go_wp2_with fail
 go_quiet (fail)
 go_wp2_with fail
 go_ret
 exact⟨rfl,aU _⟩
theorem ML(w:World)(c1:w.cell? ⟨0,31,none⟩=some (.int .u8 98))(c2:w.cell? ⟨0,32,none⟩=some (.int .u8 102)):
 Calls Tryz.prog 92 #[.int .u64 32] w fun e w'=>e= .returned (.string (aH 32))∧Below w.heap.size w w':=by
 go_enter Tryz.func92,Tryz.ntmps92
 go_wp2_with fail
 go_quiet (fail)
 go_wp2_with fail
 go_ret
 exact⟨rfl,aU _⟩
theorem MM(w:World)(c1:w.cell? ⟨0,32,none⟩=some (.int .u8 102))(c2:w.cell? ⟨0,33,none⟩=some (.int .u8 104)):
 Calls Tryz.prog 92 #[.int .u64 33] w fun e w'=>e= .returned (.string (aH 33))∧Below w.heap.size w w':=by
 go_enter Tryz.func92,Tryz.ntmps92
 go_wp2_with fail
 go_quiet (fail)
 go_wp2_with fail
 go_ret
 exact⟨rfl,aU _⟩
theorem MN(w:World)(c1:w.cell? ⟨0,33,none⟩=some (.int .u8 104))(c2:w.cell? ⟨0,34,none⟩=some (.int .u8 108)):
 Calls Tryz.prog 92 #[.int .u64 34] w fun e w'=>e= .returned (.string (aH 34))∧Below w.heap.size w w':=by
 go_enter Tryz.func92,Tryz.ntmps92
 go_wp2_with fail
 go_quiet (fail)
 go_wp2_with fail
 go_ret
 exact⟨rfl,aU _⟩
theorem MO(w:World)(c1:w.cell? ⟨0,34,none⟩=some (.int .u8 108))(c2:w.cell? ⟨0,35,none⟩=some (.int .u8 110)):
 Calls Tryz.prog 92 #[.int .u64 35] w fun e w'=>e= .returned (.string (aH 35))∧Below w.heap.size w w':=by
 go_enter Tryz.func92,Tryz.ntmps92
 go_wp2_with fail
 go_quiet (fail)
 go_wp2_with fail
 go_ret
 exact⟨rfl,aU _⟩
theorem MP(w:World)(c1:w.cell? ⟨0,35,none⟩=some (.int .u8 110))(c2:w.cell? ⟨0,36,none⟩=some (.int .u8 116)):
 Calls Tryz.prog 92 #[.int .u64 36] w fun e w'=>e= .returned (.string (aH 36))∧Below w.heap.size w w':=by
 go_enter Tryz.func92,Tryz.ntmps92
 go_wp2_with fail
 go_quiet (fail)
 go_wp2_with fail
 go_ret
 exact⟨rfl,aU _⟩
theorem MQ(w:World)(c1:w.cell? ⟨0,36,none⟩=some (.int .u8 116))(c2:w.cell? ⟨0,37,none⟩=some (.int .u8 125)):
 Calls Tryz.prog 92 #[.int .u64 37] w fun e w'=>e= .returned (.string (aH 37))∧Below w.heap.size w w':=by
 go_enter Tryz.func92,Tryz.ntmps92
 go_wp2_with fail
 go_quiet (fail)
 go_wp2_with fail
 go_ret
 exact⟨rfl,aU _⟩
theorem MR(w:World)(c1:w.cell? ⟨0,37,none⟩=some (.int .u8 125))(c2:w.cell? ⟨0,38,none⟩=some (.int .u8 128)):
 Calls Tryz.prog 92 #[.int .u64 38] w fun e w'=>e= .returned (.string (aH 38))∧Below w.heap.size w w':=by
 go_enter Tryz.func92,Tryz.ntmps92
 go_wp2_with fail
 go_quiet (fail)
 go_wp2_with fail
 go_ret
 exact⟨rfl,aU _⟩
theorem MS(w:World)(c1:w.cell? ⟨0,38,none⟩=some (.int .u8 128))(c2:w.cell? ⟨0,39,none⟩=some (.int .u8 135)):
 Calls Tryz.prog 92 #[.int .u64 39] w fun e w'=>e= .returned (.string (aH 39))∧Below w.heap.size w w':=by
 go_enter Tryz.func92,Tryz.ntmps92
 go_wp2_with fail
 go_quiet (fail)
 go_wp2_with fail
 go_ret
 exact⟨rfl,aU _⟩
theorem MT(w:World)(c1:w.cell? ⟨0,39,none⟩=some (.int .u8 135))(c2:w.cell? ⟨0,40,none⟩=some (.int .u8 140)):
 Calls Tryz.prog 92 #[.int .u64 40] w fun e w'=>e= .returned (.string (aH 40))∧Below w.heap.size w w':=by
 go_enter Tryz.func92,Tryz.ntmps92
 go_wp2_with fail
 go_quiet (fail)
 go_wp2_with fail
 go_ret
 exact⟨rfl,aU _⟩
theorem MU(w:World)(c1:w.cell? ⟨0,40,none⟩=some (.int .u8 140))(c2:w.cell? ⟨0,41,none⟩=some (.int .u8 146)):
 Calls Tryz.prog 92 #[.int .u64 41] w fun e w'=>e= .returned (.string (aH 41))∧Below w.heap.size w w':=by
 go_enter Tryz.func92,Tryz.ntmps92
 go_wp2_with fail
 go_quiet (fail)
 go_wp2_with fail
 go_ret
 exact⟨rfl,aU _⟩
theorem MV(w:World)(c1:w.cell? ⟨0,41,none⟩=some (.int .u8 146))(c2:w.cell? ⟨0,42,none⟩=some (.int .u8 152)):
 Calls Tryz.prog 92 #[.int .u64 42] w fun e w'=>e= .returned (.string (aH 42))∧Below w.heap.size w w':=by
 go_enter Tryz.func92,Tryz.ntmps92
 go_wp2_with fail
 go_quiet (fail)
 go_wp2_with fail
 go_ret
 exact⟨rfl,aU _⟩
theorem MW(w:World)(c1:w.cell? ⟨0,42,none⟩=some (.int .u8 152))(c2:w.cell? ⟨0,43,none⟩=some (.int .u8 158)):
 Calls Tryz.prog 92 #[.int .u64 43] w fun e w'=>e= .returned (.string (aH 43))∧Below w.heap.size w w':=by
 go_enter Tryz.func92,Tryz.ntmps92
 go_wp2_with fail
 go_quiet (fail)
 go_wp2_with fail
 go_ret
 exact⟨rfl,aU _⟩
theorem MX(w:World)(c1:w.cell? ⟨0,43,none⟩=some (.int .u8 158))(c2:w.cell? ⟨0,44,none⟩=some (.int .u8 164)):
 Calls Tryz.prog 92 #[.int .u64 44] w fun e w'=>e= .returned (.string (aH 44))∧Below w.heap.size w w':=by
 go_enter Tryz.func92,Tryz.ntmps92
 go_wp2_with fail
 go_quiet (fail)
 go_wp2_with fail
 go_ret
 exact⟨rfl,aU _⟩
theorem MY(w:World)(c1:w.cell? ⟨0,44,none⟩=some (.int .u8 164))(c2:w.cell? ⟨0,45,none⟩=some (.int .u8 168)):
 Calls Tryz.prog 92 #[.int .u64 45] w fun e w'=>e= .returned (.string (aH 45))∧Below w.heap.size w w':=by
 go_enter Tryz.func92,Tryz.ntmps92
 go_wp2_with fail
 go_quiet (fail)
 go_wp2_with fail
 go_ret
 exact⟨rfl,aU _⟩
theorem MZ(w:World)(c1:w.cell? ⟨0,45,none⟩=some (.int .u8 168))(c2:w.cell? ⟨0,46,none⟩=some (.int .u8 171)):
 Calls Tryz.prog 92 #[.int .u64 46] w fun e w'=>e= .returned (.string (aH 46))∧Below w.heap.size w w':=by
 go_enter Tryz.func92,Tryz.ntmps92
 go_wp2_with fail
 go_quiet (fail)
 go_wp2_with fail
 go_ret
 exact⟨rfl,aU _⟩
theorem vJ(t:Nat)(h0:22<=t)(h1:t<=46)(w:World)(hT:∀i,i<48->w.cell? ⟨0,i,none⟩=some (.int .u8 (vI i:Nat))):
 Calls Tryz.prog 92 #[.int .u64 (t:Int)] w fun e w'=>e= .returned (.string (aH t))∧Below w.heap.size w w':=by
 rcases(by omega:t=22∨t=23∨t=24∨t=25∨t=26∨t=27∨t=28∨t=29∨t=30∨t=31∨t=32∨t=33∨t=34∨t=35∨t=36∨t=37∨t=38∨t=39∨t=40∨t=41∨t=42∨t=43∨t=44∨t=45∨t=46)with rfl|rfl|rfl|rfl|rfl|rfl|rfl|rfl|rfl|rfl|rfl|rfl|rfl|rfl|rfl|rfl|rfl|rfl|rfl|rfl|rfl|rfl|rfl|rfl|rfl
 ·exact MB w (hT 21 (by decide)) (hT 22 (by decide))
 ·exact MC w (hT 22 (by decide)) (hT 23 (by decide))
 ·exact MD w (hT 23 (by decide)) (hT 24 (by decide))
 ·exact ME w (hT 24 (by decide)) (hT 25 (by decide))
 ·exact MF w (hT 25 (by decide)) (hT 26 (by decide))
 ·exact MG w (hT 26 (by decide)) (hT 27 (by decide))
 ·exact MH w (hT 27 (by decide)) (hT 28 (by decide))
 ·exact MI w (hT 28 (by decide)) (hT 29 (by decide))
 ·exact MJ w (hT 29 (by decide)) (hT 30 (by decide))
 ·exact MK w (hT 30 (by decide)) (hT 31 (by decide))
 ·exact ML w (hT 31 (by decide)) (hT 32 (by decide))
 ·exact MM w (hT 32 (by decide)) (hT 33 (by decide))
 ·exact MN w (hT 33 (by decide)) (hT 34 (by decide))
 ·exact MO w (hT 34 (by decide)) (hT 35 (by decide))
 ·exact MP w (hT 35 (by decide)) (hT 36 (by decide))
 ·exact MQ w (hT 36 (by decide)) (hT 37 (by decide))
 ·exact MR w (hT 37 (by decide)) (hT 38 (by decide))
 ·exact MS w (hT 38 (by decide)) (hT 39 (by decide))
 ·exact MT w (hT 39 (by decide)) (hT 40 (by decide))
 ·exact MU w (hT 40 (by decide)) (hT 41 (by decide))
 ·exact MV w (hT 41 (by decide)) (hT 42 (by decide))
 ·exact MW w (hT 42 (by decide)) (hT 43 (by decide))
 ·exact MX w (hT 43 (by decide)) (hT 44 (by decide))
 ·exact MY w (hT 44 (by decide)) (hT 45 (by decide))
 ·exact MZ w (hT 45 (by decide)) (hT 46 (by decide))
def iI(bs:U):Int:=
 bits BinOp.and IntKind.u64 (IntKind.u64.wrap (bits BinOp.xor IntKind.u64 (IntKind.u64.wrap (IntKind.u64.wrap ↑(bs.get! 0).toNat*16)) (IntKind.u64.wrap ↑(bs.get! 1).toNat)+IntKind.u64.wrap ↑bs.size)) 63
theorem AN(bs:U)(b o cap:Nat)(w:World)(h2:2<=bs.size)(c0:w.cell? ⟨b,o,none⟩=some (.int .u8 (bs.get! 0).toNat))(c1:w.cell? ⟨b,o+1,none⟩=some (.int .u8 (bs.get! 1).toNat)):
 Calls Tryz.prog 91 #[.slice (some ⟨b,o,none⟩) bs.size cap] w fun e w'=>e= .returned (.int .u64 (iI bs))∧Below w.heap.size w w':=by
 have l0:(0:Int)<(bs.size:Int):=by omega
 have l1:(1:Int)<(bs.size:Int):=by omega
 go_enter Tryz.func91,Tryz.ntmps91
 go_wp2_with fail
 go_quiet (fail)
 go_wp2_with fail
 go_ret
 exact⟨rfl,aU _⟩
theorem Qs{w w':World}{n:Nat}(hn:0<w.heap.size)(hB:Below w.heap.size w w')(hT:∀i,i<48->w.cell? ⟨0,i,none⟩=some (.int .u8 (vI i:Nat))):∀i,i<48->w'.cell? ⟨0,i,none⟩=some (.int .u8 (vI i:Nat)):=
 fun i hi=>by rw[hB.cell (p:=⟨0,i,none⟩) hn];exact hT i hi
def nN(h:Int):Nat->Nat->Nat
 |0,_=>0
 |n+1,k=>if iI (aH k)=h then k else nN h n (k+1)
def k_(h:Int):Nat:=nN h 25 22
theorem EJ:∀k,22<=k->k<=46->2<=(aH k).size:=by
 intro k h1 h2
 rcases(by omega:k=22∨k=23∨k=24∨k=25∨k=26∨k=27∨k=28∨k=29∨k=30∨k=31∨k=32∨k=33∨k=34∨k=35∨k=36∨k=37∨k=38∨k=39∨k=40∨k=41∨k=42∨k=43∨k=44∨k=45∨k=46)with rfl|rfl|rfl|rfl|rfl|rfl|rfl|rfl|rfl|rfl|rfl|rfl|rfl|rfl|rfl|rfl|rfl|rfl|rfl|rfl|rfl|rfl|rfl|rfl|rfl<;>decide
theorem ux(w:World)(e:TypeId)(s:U):Below w.heap.size w (Lib.bytesWorld w e s):=by
 have h:=Lib.bytesWorld_at_old w e s
 refine⟨rfl,rfl,rfl,?_,fun k hk=>h k hk⟩
 have:=Lib.bytesWorld_at_new w e s
 have:=(Array.getElem?_eq_some_iff.1 this).1
 omega
theorem bytesWorld_cell(w:World)(e:TypeId)(s:U)(j:Nat)(hj:j<s.size):(Lib.bytesWorld w e s).cell? ⟨w.heap.size,j,none⟩=some (.int .u8 (s.get! j).toNat):=by
 rw[Lib.bytesWorld_cell w e s j hj]
 have JW:j<s.data.size:=hj
 show some (Value.int .u8 ((s.data.toList.getD j 0).toNat:Int))=some (Value.int .u8 ((s.data[j]!).toNat:Int))
 rw[getElem!_pos s.data j JW,List.getD_eq_getElem?_getD,Array.getElem?_toList,Array.getElem?_eq_getElem JW]
 rfl
theorem q8{B:Nat}{w w1 w2:World}(h:Below B w w1)(hB:B<=w1.heap.size)(h2:Below w1.heap.size w1 w2):Below B w w2:=
 h.trans ⟨h2.os,h2.tape,h2.output,h2.size,fun k hk=>h2.block k (Nat.lt_of_lt_of_le hk hB)⟩
theorem CC(h:Int)(w:World)(hT:∀i,i<48->w.cell? ⟨0,i,none⟩=some (.int .u8 (vI i:Nat))):
 Calls Tryz.prog 90 #[.int .u64 h] w fun e w'=>e= .returned (.int .u64 (k_ h:Nat))∧Below w.heap.size w w':=by
 have bz:0<w.heap.size:=World.block_lt_of_cell? w _ (hT 0 (by decide))
 have HT:=Lib.hid hT
 clear hT
 go_enter Tryz.func90,Tryz.ntmps90
 go_wp2_with fail
 go_loopw [3] (fun v wr=>∃k:Nat,22<=k∧k<=47∧v= .int .u64 (k:Int)∧Below w.heap.size w wr∧Hid (k_ h=nN h (47-k) k)) (fun v _=>47-(intOf v).toNat)
 case atStart=>exact⟨22,by omega,by omega,rfl,Below.refl _ _,Lib.hid rfl⟩
 case round=>
  obtain⟨k,h1,h2,rfl,hB,HK⟩:=hrel
  have HB:=Lib.hid hB
  clear hB
  by_cases hk:k<=46
  ·have OQ:decide ((k:Int)<=46)=true:=by simp;omega
   go_wp2_with fail
   refine(vJ k h1 hk wr (Qs (n:=0) bz HB.out HT.out)).mono ?_
   rintro e w1 ⟨rfl,oA⟩
   have HB1:=Lib.hid oA
   clear oA
   go_wp2_with fail
   have hcv:=Lib.run_convert_string_bytes (P:=Tryz.prog) w1 9 40 5 (aH k) (u:= .string) Tryz.underlying9 Tryz.underlying40 Tryz.underlying5
   rw[hcv]
   clear hcv
   have nF:=ux w1 5 (aH k)
   have OU:=bytesWorld_cell w1 5 (aH k)
   generalize Lib.bytesWorld w1 5 (aH k)=w2 at*
   have HB2:=Lib.hid nF
   have HC2:=Lib.hid OU
   clear nF OU
   go_wp2_with fail
   have h2w:=EJ k h1 hk
   refine(AN (aH k) w1.heap.size 0 _ w2 h2w (by have:=HC2.out 0 (by omega);exact this) (by have:=HC2.out 1 (by omega);exact this)).mono ?_
   rintro e w3 ⟨rfl,AO⟩
   have HB3:=Lib.hid AO
   clear AO
   have adV:Below w.heap.size w w3:=by
    have s0:=HB.out.size
    have s1:=HB1.out.size
    have s2:=HB2.out.size
    exact q8 (q8 (q8 HB.out s0 HB1.out) (by omega) HB2.out) (by omega) HB3.out
   have adW:=Lib.hid adV
   clear adV
   have hkf:nN h (47-k) k=if iI (aH k)=h then k else nN h (47-(k+1)) (k+1):=by
    rw[show 47-k=(47-(k+1))+1 from by omega];rfl
   have HKF:=Lib.hid hkf
   clear hkf
   by_cases he:iI (aH k)=h
   ·have DQ:(iI (aH k)==h)=true:=by simp[he]
    have HE:=Lib.hid he
    clear he
    go_wp2_with fail
    go_ret
    refine⟨?_,adW.out⟩
    rw[HK.out,HKF.out,if_pos HE.out]
    rfl
   ·have DQ:(iI (aH k)==h)=false:=by simp[he]
    have HE:=Lib.hid he
    clear he
    go_wp2_with fail
    have hw:IntKind.u64.wrap ((k:Int)+1)=((k+1:Nat):Int):=by
     simp only[IntKind.wrap,IntKind.bits,IntKind.signed];simp;omega
    go_roundw
    case rel=>exact⟨k+1,by omega,by omega,(by first|rfl|rw[hw]),adW.out,Lib.hid (by rw[HK.out,HKF.out,if_neg HE.out])⟩
    case measure=>simp[intOf];omega
  ·have OQ:decide ((k:Int)<=46)=false:=by simp;omega
   go_wp2_with fail
   go_ret
   have e47:k=47:=by omega
   subst e47
   exact⟨by rw[HK.out];rfl,HB.out⟩
def ay(c:Int):Int:=bits BinOp.or IntKind.i32 32 c
def cj(c:Int):Bool:=(decide (97<=ay c)&&decide (ay c<=122))||(c==95)
def aE(c:Int):Bool:=decide (48<=c)&&decide (c<=57)
def dj(c:Int):Bool:=(decide (48<=c)&&decide (c<=57))||(decide (97<=ay c)&&decide (ay c<=102))
def AP(b:Int):U:=
 if b=2 then⟨#[98,105,110,97,114,121]⟩else if b=8 then⟨#[111,99,116,97,108]⟩else if b=10 then⟨#[100,101,99,105,109,97,108]⟩else⟨#[104,101,120,97,100,101,99,105,109,97,108]⟩
theorem la(c:Int)(w:World):Calls Tryz.prog 88 #[.int .i32 c] w fun e w'=>e= .returned (.int .i32 (ay c))∧w'=w:=by
 go_enter Tryz.func88,Tryz.ntmps88
 go_wp2_with fail
 go_ret
 exact⟨rfl,rfl⟩
theorem x6(c:Int)(w:World):Calls Tryz.prog 70 #[.int .i32 c] w fun e w'=>e= .returned (.bool (aE c))∧w'=w:=by
 cases h1:decide (48<=c)<;>cases h2:decide (c<=57)
 all_goals
  have hf:aE c=(decide (48<=c)&&decide (c<=57)):=rfl
  rw[h1,h2]at hf
  have Hf:=Lib.hid hf
  clear hf
  go_enter Tryz.func70,Tryz.ntmps70
  go_wp2_with fail
  go_ret
  exact⟨by rw[Hf.out];rfl,rfl⟩
theorem z7(c:Int)(w:World):Calls Tryz.prog 63 #[.int .i32 c] w fun e w'=>e= .returned (.bool (cj c))∧w'=w:=by
 generalize hl:ay c=l
 have hf:cj c=((decide (97<=l)&&decide (l<=122))||(c==95)):=by rw[←hl];rfl
 have Hl:=Lib.hid hl
 clear hl
 cases h1:decide (97<=l)<;>cases h2:decide (l<=122)<;>cases h3:(c==95)
 all_goals
  rw[h1,h2,h3]at hf
  have Hf:=Lib.hid hf
  clear hf
  go_enter Tryz.func63,Tryz.ntmps63
  go_wp2_with fail
  try (refine(la c w).mono ?_;rintro e w1 ⟨rfl,rfl⟩;rw[Hl.out];go_wp2_with fail)
  try (refine(la c w1).mono ?_;rintro e w2 ⟨rfl,rfl⟩;rw[Hl.out];go_wp2_with fail)
  go_ret
  exact⟨by rw[Hf.out];rfl,rfl⟩
theorem Ii(c:Int)(w:World):Calls Tryz.prog 110 #[.int .i32 c] w fun e w'=>e= .returned (.bool (dj c))∧w'=w:=by
 generalize hl:ay c=l
 have hf:dj c=((decide (48<=c)&&decide (c<=57))||(decide (97<=l)&&decide (l<=102))):=by rw[←hl];rfl
 have Hl:=Lib.hid hl
 clear hl
 cases h1:decide (48<=c)<;>cases h2:decide (c<=57)<;>cases h3:decide (97<=l)<;>cases h4:decide (l<=102)
 all_goals
  rw[h1,h2,h3,h4]at hf
  have Hf:=Lib.hid hf
  clear hf
  go_enter Tryz.func110,Tryz.ntmps110
  go_wp2_with fail
  try (refine(la c w).mono ?_;rintro e w1 ⟨rfl,rfl⟩;rw[Hl.out];go_wp2_with fail)
  try (refine(la c w1).mono ?_;rintro e w2 ⟨rfl,rfl⟩;rw[Hl.out];go_wp2_with fail)
  go_ret
  exact⟨by rw[Hf.out];rfl,rfl⟩
theorem z8(b:Int)(hb:b=2∨b=8∨b=10∨b=16)(w:World):Calls Tryz.prog 95 #[.int .i64 b] w fun e w'=>e= .returned (.string (AP b))∧w'=w:=by
 rcases hb with rfl|rfl|rfl|rfl
 all_goals
  go_enter Tryz.func95,Tryz.ntmps95
  go_wp2_with fail
  go_ret
  exact⟨rfl,rfl⟩
end
end Sc
end Go.Proofs.YtogkcphobhhbdaaGreatDoor
namespace Go.Proofs
open Go.Shelf
noncomputable section
def Tryz.EK:Go.Shelf.Ren:=⟨fun|200=>53|261=>77|311=>104|312=>105|n=>n,fun|21=>21|4=>4|51=>109|5=>5|119=>110|0=>0|141=>112|196=>138|193=>135|3=>3|198=>141|49=>139|194=>136|201=>144|226=>155|46=>66|227=>156|n=>n,fun|7=>3|8=>4|n=>n⟩
theorem Tryz.Vv:Go.Proofs.Lays.n200 Tryz.prog Tryz.EK:={
 mixed:=by kernel_rfl
 f200:=Tryz.func53.trans (congrArg some (by kernel_rfl))
 f261:=Tryz.func77.trans (congrArg some (by kernel_rfl))
 f311:=Tryz.func104.trans (congrArg some (by kernel_rfl))
 f312:=Tryz.func105.trans (congrArg some (by kernel_rfl))
 t0:=Tryz.underlying0
 a0:=Tryz.isAgg0
 z0:=Tryz.sizeOf0
 v0:=Tryz.zeroValue0
 t3:=Tryz.underlying3
 a3:=Tryz.isAgg3
 z3:=Tryz.sizeOf3
 v3:=Tryz.zeroValue3
 t4:=Tryz.underlying4
 a4:=Tryz.isAgg4
 z4:=Tryz.sizeOf4
 v4:=Tryz.zeroValue4
 t5:=Tryz.underlying5
 a5:=Tryz.isAgg5
 z5:=Tryz.sizeOf5
 v5:=Tryz.zeroValue5
 t21:=Tryz.underlying21
 a21:=Tryz.isAgg21
 z21:=Tryz.sizeOf21
 v21:=Tryz.zeroValue21
 t46:=Tryz.underlying66
 a46:=Tryz.isAgg66
 z46:=Tryz.sizeOf66
 v46:=Tryz.zeroValue66
 t49:=Tryz.underlying139
 a49:=Tryz.isAgg139
 z49:=Tryz.sizeOf139
 v49:=Tryz.zeroValue139
 t51:=Tryz.underlying109
 a51:=Tryz.isAgg109
 z51:=Tryz.sizeOf109
 v51:=Tryz.zeroValue109
 t119:=Tryz.underlying110
 a119:=Tryz.isAgg110
 z119:=Tryz.sizeOf110
 t141:=Tryz.underlying112
 a141:=Tryz.isAgg112
 z141:=Tryz.sizeOf112
 v141:=Tryz.zeroValue112
 t193:=Tryz.underlying135
 a193:=Tryz.isAgg135
 z193:=Tryz.sizeOf135
 v193:=Tryz.zeroValue135
 t194:=Tryz.underlying136
 a194:=Tryz.isAgg136
 z194:=Tryz.sizeOf136
 v194:=Tryz.zeroValue136
 t196:=Tryz.underlying138
 a196:=Tryz.isAgg138
 z196:=Tryz.sizeOf138
 v196:=Tryz.zeroValue138
 t198:=Tryz.underlying141
 a198:=Tryz.isAgg141
 z198:=Tryz.sizeOf141
 v198:=Tryz.zeroValue141
 t201:=Tryz.underlying144
 a201:=Tryz.isAgg144
 z201:=Tryz.sizeOf144
 v201:=Tryz.zeroValue144
 t226:=Tryz.underlying155
 a226:=Tryz.isAgg155
 z226:=Tryz.sizeOf155
 v226:=Tryz.zeroValue155
 t227:=Tryz.underlying156
 a227:=Tryz.isAgg156
 z227:=Tryz.sizeOf156
 v227:=Tryz.zeroValue156
 g7:=by kernel_rfl
 g8:=by kernel_rfl}
open Go.RowKit Go.Lib in
theorem Tryz.unicode_IsLetter_all(r:Int)(w:World)(OV: -2147483648<=r)(hhi:r<=2147483647)(ahv:Lib.TabIs Tryz.prog w "unicode.properties" .u8 Lib.propertiesTab)(hV:RVar 4 letterT w):
 Calls Tryz.prog 53 #[.int .i32 r] w fun e w'=>e= .returned (.bool (isLetterU r))∧Below w.heap.size w w':=Any.unicode_IsLetter_all Tryz.Vv (by kernel_rfl) r w OV hhi ahv hV
def Tryz.EL:Go.Shelf.Ren:=⟨fun|198=>54|261=>77|311=>104|312=>105|n=>n,fun|21=>21|4=>4|141=>112|0=>0|196=>138|193=>135|3=>3|51=>109|198=>141|49=>139|194=>136|201=>144|226=>155|46=>66|227=>156|n=>n,fun|5=>5|n=>n⟩
theorem Tryz.Vw:Go.Proofs.Lays.n198 Tryz.prog Tryz.EL:={
 mixed:=by kernel_rfl
 f198:=Tryz.func54.trans (congrArg some (by kernel_rfl))
 f261:=Tryz.func77.trans (congrArg some (by kernel_rfl))
 f311:=Tryz.func104.trans (congrArg some (by kernel_rfl))
 f312:=Tryz.func105.trans (congrArg some (by kernel_rfl))
 t0:=Tryz.underlying0
 a0:=Tryz.isAgg0
 z0:=Tryz.sizeOf0
 v0:=Tryz.zeroValue0
 t3:=Tryz.underlying3
 a3:=Tryz.isAgg3
 z3:=Tryz.sizeOf3
 v3:=Tryz.zeroValue3
 t4:=Tryz.underlying4
 a4:=Tryz.isAgg4
 z4:=Tryz.sizeOf4
 v4:=Tryz.zeroValue4
 t21:=Tryz.underlying21
 a21:=Tryz.isAgg21
 z21:=Tryz.sizeOf21
 v21:=Tryz.zeroValue21
 t46:=Tryz.underlying66
 a46:=Tryz.isAgg66
 z46:=Tryz.sizeOf66
 v46:=Tryz.zeroValue66
 t49:=Tryz.underlying139
 a49:=Tryz.isAgg139
 z49:=Tryz.sizeOf139
 v49:=Tryz.zeroValue139
 t51:=Tryz.underlying109
 a51:=Tryz.isAgg109
 z51:=Tryz.sizeOf109
 v51:=Tryz.zeroValue109
 t141:=Tryz.underlying112
 a141:=Tryz.isAgg112
 z141:=Tryz.sizeOf112
 v141:=Tryz.zeroValue112
 t193:=Tryz.underlying135
 a193:=Tryz.isAgg135
 z193:=Tryz.sizeOf135
 v193:=Tryz.zeroValue135
 t194:=Tryz.underlying136
 a194:=Tryz.isAgg136
 z194:=Tryz.sizeOf136
 v194:=Tryz.zeroValue136
 t196:=Tryz.underlying138
 a196:=Tryz.isAgg138
 z196:=Tryz.sizeOf138
 v196:=Tryz.zeroValue138
 t198:=Tryz.underlying141
 a198:=Tryz.isAgg141
 z198:=Tryz.sizeOf141
 v198:=Tryz.zeroValue141
 t201:=Tryz.underlying144
 a201:=Tryz.isAgg144
 z201:=Tryz.sizeOf144
 v201:=Tryz.zeroValue144
 t226:=Tryz.underlying155
 a226:=Tryz.isAgg155
 z226:=Tryz.sizeOf155
 v226:=Tryz.zeroValue155
 t227:=Tryz.underlying156
 a227:=Tryz.isAgg156
 z227:=Tryz.sizeOf156
 v227:=Tryz.zeroValue156
 g5:=by kernel_rfl}
open Go.RowKit Go.Lib in
theorem Tryz.unicode_IsDigit_all(r:Int)(w:World)(OV: -2147483648<=r)(hhi:r<=2147483647)(hV:RVar 5 digitT w):
 Calls Tryz.prog 54 #[.int .i32 r] w fun e w'=>e= .returned (.bool (isDigitU r))∧Below w.heap.size w w':=Any.unicode_IsDigit_all Tryz.Vw r w OV hhi hV
end
end Go.Proofs
namespace Go.Proofs.YtogkcphobhhbdaaGreatDoor
open Go Go.RowKit Go.Lib
namespace Sc
open Ev
set_option maxRecDepth 100000
noncomputable section
theorem x7{A:Ad}(hA:A.Ok){f:FuncId}{g:List SV->aq (SY A)->af (SV×aq (SY A))}
 (h:∀(args:List SV) (c:aq (SY A)) (bl:List Nat) (w:World) (bS:List Value) (Q:SV×aq (SY A)->Prop),oM (SY A) bl w args bS->jm A c.st w->(g args c).aD Q->
   ∃sv v,Q (sv,c)∧nw (SY A) sv v∧Calls Tryz.prog f bS.toArray w fun e w'=>e= .returned v∧Below w.heap.size w w'):fg (SY A) f #[] false g:=by
 intro args c bl w bS Q cK hc hs
 obtain⟨sv,v,hq,hrel,EM⟩:=h args c bl w bS Q cK hc.inv hs
 rw[Array.append_empty]
 refine EM.mono ?_
 rintro e w' ⟨rfl,hB⟩
 obtain⟨x,hx,ha⟩:=hc.inv
 have hinv:jm A c.st w':=⟨x,hx.kept (kU hx hB),ha⟩
 refine .inl ⟨sv,c,v,bl,hq,rfl,hrel.rel _ _,kW (Y:=SY A) hc hinv hB,(kV hB bl).ext,fun _ o=> ?_⟩
 have bz:=((db A hA).lt hc.inv).2
 simp only[World.cell?,hB.block _ bz]
def x8(A:Ad)(k:IntKind)(r:Int->Value)(args:List SV)(c:aq (SY A)):af (SV×aq (SY A)):=
 match args with
 |[.val (.int k' n)]=>bif decide (k'=k)then .ae (.val (r n),c)else .fail
 |_=> .fail
theorem sD{A:Ad}(hA:A.Ok){f:FuncId}{k:IntKind}{r:Int->Value}
 (h:∀(n:Int) (st:St) (w:World),jm A st w->Calls Tryz.prog f #[.int k n] w fun e w'=>e= .returned (r n)∧Below w.heap.size w w'):fg (SY A) f #[] false (x8 A k r):=by
 refine x7 hA (fun args c bl w bS Q cK hinv hs=> ?_)
 unfold x8 at hs
 split at hs
 ·rename_i k' n
  by_cases hk:k'=k
  ·subst hk
   simp only[decide_true,cond_true]at hs
   cases cK with
   |cons h1 hr=>
    cases hr
    have e:_=Value.int k' n:=h1
    subst e
    exact⟨_,_,hs,rfl,h _ c.st w hinv⟩
  ·simp only[hk,decide_false,cond_false,af.aD]at hs
 ·exact hs.elim
theorem mU{A:Ad}{k:IntKind}{r:Int->Value}:gT (Y:=SY A) (x8 A k r):=by
 intro args c Q hb h
 unfold x8 at h
 split at h
 ·rename_i k' n
  by_cases hk:k'=k
  ·simp only[hk,decide_true,cond_true]at h;exact⟨_,h,hb⟩
  ·simp only[hk,decide_false,cond_false,af.aD]at h
 ·exact h.elim
theorem lb{A:Ad}{k:IntKind}{r:Int->Value}(args:List SV)(c:aq (SY A)):(x8 A k r args c).quiet c:=by
 unfold x8
 split
 ·rename_i k' n
  by_cases hk:k'=k
  ·simp only[hk,decide_true,cond_true];rfl
  ·simp only[hk,decide_false,cond_false];trivial
 ·trivial
def z_(A:Ad)(k:IntKind)(P:Int->Prop)(r:Int->Value)(args:List SV)(c:aq (SY A)):af (SV×aq (SY A)):=
 match args with
 |[.val (.int k' n)]=>bif decide (k'=k)then .aY (P n) (.ae (.val (r n),c))else .fail
 |_=> .fail
theorem wK{A:Ad}(hA:A.Ok){f:FuncId}{k:IntKind}{P:Int->Prop}{r:Int->Value}
 (h:∀(n:Int) (st:St) (w:World),jm A st w->P n->Calls Tryz.prog f #[.int k n] w fun e w'=>e= .returned (r n)∧Below w.heap.size w w'):fg (SY A) f #[] false (z_ A k P r):=by
 refine x7 hA (fun args c bl w bS Q cK hinv hs=> ?_)
 unfold z_ at hs
 split at hs
 ·rename_i k' n
  by_cases hk:k'=k
  ·subst hk
   simp only[decide_true,cond_true]at hs
   cases cK with
   |cons h1 hr=>
    cases hr
    have e:_=Value.int k' n:=h1
    subst e
    exact⟨_,_,hs.2,rfl,h _ c.st w hinv hs.1⟩
  ·simp only[hk,decide_false,cond_false,af.aD]at hs
 ·exact hs.elim
theorem pQ{A:Ad}{k:IntKind}{P:Int->Prop}{r:Int->Value}:gT (Y:=SY A) (z_ A k P r):=by
 intro args c Q hb h
 unfold z_ at h
 split at h
 ·rename_i k' n
  by_cases hk:k'=k
  ·simp only[hk,decide_true,cond_true]at h;exact⟨_,h.2,hb⟩
  ·simp only[hk,decide_false,cond_false,af.aD]at h
 ·exact h.elim
theorem nO{A:Ad}{k:IntKind}{P:Int->Prop}{r:Int->Value}(args:List SV)(c:aq (SY A)):(z_ A k P r args c).quiet c:=by
 unfold z_
 split
 ·rename_i k' n
  by_cases hk:k'=k
  ·simp only[hk,decide_true,cond_true];rfl
  ·simp only[hk,decide_false,cond_false];trivial
 ·trivial
def adY(A:Ad):ej (SY A):=⟨63,#[],false,x8 A .i32 fun c=> .bool (cj c)⟩
theorem Vx(A:Ad)(hA:A.Ok):(adY A).Ok:=⟨fun args w=>by kernel_rfl,sD hA (fun c st w _=>(z7 c w).mono fun e w' ⟨h1,h2⟩=>⟨h1,h2▸Below.refl _ _⟩),mU⟩
def Ze(A:Ad):ej (SY A):=⟨70,#[],false,x8 A .i32 fun c=> .bool (aE c)⟩
theorem Qt(A:Ad)(hA:A.Ok):(Ze A).Ok:=⟨fun args w=>by kernel_rfl,sD hA (fun c st w _=>(x6 c w).mono fun e w' ⟨h1,h2⟩=>⟨h1,h2▸Below.refl _ _⟩),mU⟩
def adZ(A:Ad):ej (SY A):=⟨110,#[],false,x8 A .i32 fun c=> .bool (dj c)⟩
theorem Vy(A:Ad)(hA:A.Ok):(adZ A).Ok:=⟨fun args w=>by kernel_rfl,sD hA (fun c st w _=>(Ii c w).mono fun e w' ⟨h1,h2⟩=>⟨h1,h2▸Below.refl _ _⟩),mU⟩
def ad0(A:Ad):ej (SY A):=⟨88,#[],false,x8 A .i32 fun c=> .int .i32 (ay c)⟩
theorem Vz(A:Ad)(hA:A.Ok):(ad0 A).Ok:=⟨fun args w=>by kernel_rfl,sD hA (fun c st w _=>(la c w).mono fun e w' ⟨h1,h2⟩=>⟨h1,h2▸Below.refl _ _⟩),mU⟩
def ad1(A:Ad):ej (SY A):=⟨95,#[],false,z_ A .i64 (fun b=>b=2∨b=8∨b=10∨b=16) fun b=> .string (AP b)⟩
theorem VA(A:Ad)(hA:A.Ok):(ad1 A).Ok:=⟨fun args w=>by kernel_rfl,wK hA (fun b st w _ hb=>(z8 b hb w).mono fun e w' ⟨h1,h2⟩=>⟨h1,h2▸Below.refl _ _⟩),pQ⟩
theorem Qu{A:Ad}{st:St}{w:World}(h:jm A st w):∀i,i<48->w.cell? ⟨0,i,none⟩=some (.int .u8 (vI i:Nat)):=by
 obtain⟨x,hx,_⟩:=h
 intro i hi
 have hs:=hx.ok.jU.size
 rw[hx.below.cell (by show 0<A.w0.heap.size;omega)]
 rw[hx.ok.jU.tix i hi]
 unfold vI
 congr 1
 have key:∀i,i<48->(([0,3,7,14,16,19,23,24,26,28,29,30,31,32,33,34,35,36,37,38,39,42,47,51,55,60,68,75,80,84,95,98,102,104,108,110,116,125,128,135,140,146,152,158,164,168,171,171]:List Int).getD i 0)=((([0,3,7,14,16,19,23,24,26,28,29,30,31,32,33,34,35,36,37,38,39,42,47,51,55,60,68,75,80,84,95,98,102,104,108,110,116,125,128,135,140,146,152,158,164,168,171,171]:List Nat).getD i 0:Nat):Int):=by decide
 rw[key i hi]
def ad2(A:Ad):ej (SY A):=⟨92,#[],false,z_ A .u64 (fun t=>22<=t∧t<=46) fun t=> .string (aH t.toNat)⟩
theorem VB(A:Ad)(hA:A.Ok):(ad2 A).Ok:=⟨fun args w=>by kernel_rfl,wK hA (fun t st w hi hp=>by
 obtain⟨n,rfl⟩:=Int.eq_ofNat_of_zero_le (by omega:0<=t)
 show Calls Tryz.prog 92 #[.int .u64 (n:Int)] w fun e w'=>e= .returned (.string (aH ((n:Int)).toNat))∧Below w.heap.size w w'
 rw[Int.toNat_natCast]
 exact vJ n (by omega) (by omega) w (Qu hi)),pQ⟩
def kwS(A:Ad):ej (SY A):=⟨90,#[],false,x8 A .u64 fun h=> .int .u64 (k_ h:Nat)⟩
theorem aaE(A:Ad)(hA:A.Ok):(kwS A).Ok:=⟨fun args w=>by kernel_rfl,sD hA (fun h st w hi=>CC h w (Qu hi)),mU⟩
def EN(A:Ad)(args:List SV)(c:aq (SY A)):af (SV×aq (SY A)):=
 match args with
 |[.fG bs]=> .aY (2<=bs.size) (.ae (.val (.int .u64 (iI bs)),c))
 |_=> .fail
def Kj(A:Ad):ej (SY A):=⟨91,#[],false,EN A⟩
theorem Qv(A:Ad)(hA:A.Ok):(Kj A).Ok:=by
 refine⟨fun args w=>by kernel_rfl,x7 hA (fun args c bl w bS Q cK hinv hs=> ?_),?_⟩
 ·unfold Kj EN at hs
  simp only at hs
  split at hs
  ·cases cK with
   |cons h1 hr=>
    cases hr
    obtain⟨o,cap,zO,rfl,cF⟩:=h1
    refine⟨_,_,hs.2,rfl,AN _ A.buf o cap w hs.1 ?_ (cF 1 (by have:=hs.1;omega))⟩
    exact cF 0 (by have:=hs.1;omega)
  ·exact hs.elim
 ·intro args c Q hb h
  unfold Kj EN at h
  simp only at h
  split at h
  ·exact⟨_,h.2,hb⟩
  ·exact h.elim
theorem Ij{A:Ad}(args:List SV)(c:aq (SY A)):(EN A args c).quiet c:=by
 unfold EN
 split
 ·rfl
 ·trivial
theorem x9{A:Ad}{st:St}{w:World}(h:jm A st w):A.Ok∧Below A.w0.heap.size A.w0 w:=by
 obtain⟨x,hx,_⟩:=h
 exact⟨hx.ok,hx.below⟩
def ulS(A:Ad):ej (SY A):=⟨53,#[],false,z_ A .i32 (fun c=> -2147483648<=c∧c<=2147483647) fun c=> .bool (isLetterU c)⟩
theorem aaF(A:Ad)(hA:A.Ok):(ulS A).Ok:=⟨fun args w=>by kernel_rfl,wK hA (fun c st w hi hp=>by
 obtain⟨ho,hB⟩:=x9 hi
 exact Tryz.unicode_IsLetter_all c w hp.1 hp.2 (Go.Proofs.TabIs_below (by kernel_rfl:Tryz.prog.globalNamed "unicode.properties" =some 3) ho.jU.props hB) (Go.Proofs.RVar_below ho.jU.letter hB)),pQ⟩
def udS(A:Ad):ej (SY A):=⟨54,#[],false,z_ A .i32 (fun c=> -2147483648<=c∧c<=2147483647) fun c=> .bool (isDigitU c)⟩
theorem aaG(A:Ad)(hA:A.Ok):(udS A).Ok:=⟨fun args w=>by kernel_rfl,wK hA (fun c st w hi hp=>by
 obtain⟨ho,hB⟩:=x9 hi
 exact Tryz.unicode_IsDigit_all c w hp.1 hp.2 (Go.Proofs.RVar_below ho.jU.digit hB)),pQ⟩
def vK(A:Ad):List (Nat×ej (SY A)):=
 [(61,Qg A),(62,Ig A),(59,Qj A),(89,Vn A),(60,Kg A),(84,Kh A),(71,aaD A),
  (63,adY A),(70,Ze A),(110,adZ A),(88,ad0 A),(95,ad1 A),(92,ad2 A),(90,kwS A),(91,Kj A),(53,ulS A),(54,udS A)]
def Ik:List Nat:=[63,70,110,88,95,92,90,91,53,54]
structure bI(A:Ad)(l:List (Nat×ej (SY A))):Prop where
 all:∀p∈l,p.2.Ok∧p.2.f=p.1∧p.2.kQ=#[]∧(dx Ik p.1=true->p.2.iR=false∧∀args c,(p.2.g args c).quiet c)
theorem bI.cons{A:Ad}{l:List (Nat×ej (SY A))}(h:bI A l){n:Nat}{s:ej (SY A)}(h1:s.Ok)(h2:s.f=n)(h3:s.kQ=#[])(h4:dx Ik n=true->s.iR=false∧∀args c,(s.g args c).quiet c):bI A ((n,s)::l):=
 ⟨fun p hp=>by
  rcases List.mem_cons.1 hp with rfl|hp
  ·exact⟨h1,h2,h3,h4⟩
  ·exact h.all p hp⟩
theorem bI.nil{A:Ad}:bI A []:=⟨fun p hp=>by cases hp⟩
theorem oZ(A:Ad)(hA:A.Ok):bI A (vK A):=by
 refine bI.cons ?_ (Qh A hA) rfl rfl (fun h=>by cases h)
 refine bI.cons ?_ (MA A hA) rfl rfl (fun h=>by cases h)
 refine bI.cons ?_ (Qk A hA) rfl rfl (fun h=>by cases h)
 refine bI.cons ?_ (Vo A hA) rfl rfl (fun h=>by cases h)
 refine bI.cons ?_ (Qm A hA) rfl rfl (fun h=>by cases h)
 refine bI.cons ?_ (Qo A hA) rfl rfl (fun h=>by cases h)
 refine bI.cons ?_ (Vu A hA) rfl rfl (fun h=>by cases h)
 refine bI.cons ?_ (Vx A hA) rfl rfl (fun _=>⟨rfl,lb⟩)
 refine bI.cons ?_ (Qt A hA) rfl rfl (fun _=>⟨rfl,lb⟩)
 refine bI.cons ?_ (Vy A hA) rfl rfl (fun _=>⟨rfl,lb⟩)
 refine bI.cons ?_ (Vz A hA) rfl rfl (fun _=>⟨rfl,lb⟩)
 refine bI.cons ?_ (VA A hA) rfl rfl (fun _=>⟨rfl,nO⟩)
 refine bI.cons ?_ (VB A hA) rfl rfl (fun _=>⟨rfl,nO⟩)
 refine bI.cons ?_ (aaE A hA) rfl rfl (fun _=>⟨rfl,lb⟩)
 refine bI.cons ?_ (Qv A hA) rfl rfl (fun _=>⟨rfl,Ij⟩)
 refine bI.cons ?_ (aaF A hA) rfl rfl (fun _=>⟨rfl,nO⟩)
 refine bI.cons ?_ (aaG A hA) rfl rfl (fun _=>⟨rfl,nO⟩)
 exact bI.nil
def iM(A:Ad)(l:List (Nat×ej (SY A)))(N:Nat)(jI:List (Nat×(E (SY A)->af (Ex×E (SY A)))))(kj:Nat):eS (SY A):=⟨N,l,[(0,Qp A)],jI,Ik,[],kj⟩
theorem bw(A:Ad)(hA:A.Ok){l:List (Nat×ej (SY A))}(hl:bI A l)(N:Nat)(jI:List (Nat×(E (SY A)->af (Ex×E (SY A)))))(kj:Nat):(iM A l N jI kj).Ok where
 uf:=fun p hp=>⟨(hl.all p hp).1,(hl.all p hp).2.1,(hl.all p hp).2.2.1⟩
 still:=fun p hp h=>(hl.all p hp).2.2.2 h
 fns:=fun p hp=>by
  obtain rfl:p=(0,Qp A):=by simpa[iM] using hp
  exact⟨Vp A hA,rfl⟩
 rX:=fun p hp=>by cases hp
def Es(A:Ad)(st:St)(bx:List Value)(tm:List (Nat×SV)):E (SY A):=⟨⟨st,bx⟩,tm⟩
end
end Sc
end Go.Proofs.YtogkcphobhhbdaaGreatDoor
