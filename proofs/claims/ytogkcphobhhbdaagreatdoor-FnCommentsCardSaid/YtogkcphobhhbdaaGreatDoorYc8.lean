/- The scanner of the program told as plain functions, part 8: texts joined and shortened by a program (wip/tools/mini.py). -/
import Derived.Test.YtogkcphobhhbdaaGreatDoorYc7
set_option linter.unusedVariables false
set_option linter.unusedSimpArgs false
set_option maxHeartbeats 32000000
namespace Go.Proofs.YtogkcphobhhbdaaGreatDoor
open Go Go.RowKit Go.Lib
namespace Sc
open Ev
set_option maxRecDepth 100000
noncomputable section
def dX(s:U):Nat->Nat->List Int
 |0,_=>[]
 |n+1,p=>if p<s.size then((Utf8.decode s p).1:Int)::dX s n (p+(Utf8.decode s p).2)else []
def IU(A:Ad)(φ:St->St)(bx:List Value)(r:Bool×St):af (Ex×E (SY A)):= .aj r.1 (.ae (.normal,kG A (r.2,bx))) (.ae (.ret,⟨⟨φ r.2,bx⟩,[]⟩))
structure nf(N tI tK tB id:Nat)(b rest:Code):Prop where
 shape:∃ko o1 o2,b= .seq (.region ko #[o1,o2] false) rest∧o1.guard=none∧o2.guard=none∧o1.dst=some tK∧o2.dst=some tB∧o1.op= .next (.tmp tI) true∧o2.op= .extract (.tmp tK) 0
 k1:iF N (some tK)=true
 k2:iF N (some tB)=true
 hI:tI≠0
def yD(A:Ad)(tI tK tB it p:Nat)(r:Int)(q:St×List Value):E (SY A):=⟨⟨q.1,q.2⟩,(tB,.val (.bool true))::(tK,.val (.tuple #[.bool true,.int .i64 p,.int .i32 r]))::fH tI it⟩
def E2(A:Ad)(tI tK tB it:Nat)(q:St×List Value):E (SY A):=⟨⟨q.1,q.2⟩,(tB,.val (.bool false))::(tK,.val (.tuple #[.bool false]))::fH tI it⟩
theorem C0{A:Ad}(hA:A.Ok){N tI tK tB id:Nat}{b rest:Code}(hc:nf N tI tK tB id b rest)(s:U)(φ:St->St)(C1:∀st,st.ab.length<=(φ st).ab.length)
 (h1:∀(it p:Nat) (r:Int),At (SY A) N rest (yD A tI tK tB it p r) (fun q=> .aj (q.1.ch != r) (.ae (.ret,⟨⟨φ q.1,q.2⟩,[]⟩)) (.ae (.normal,⟨⟨aa A.O q.1,q.2⟩,fH tI it⟩))))
 (h0:∀it:Nat,At (SY A) N rest (E2 A tI tK tB it) (fun q=> .ae (.exit id,kG A q))){it:Nat}{mJ:List Nat}{w0:World}{Q:Ex×E (SY A)->Prop}(bx:List Value):
 ∀(n p:Nat) (st:St) (bl:List Nat) (a:Act) (w:World),gW A N it s p ⟨⟨st,bx⟩,fH tI it⟩ mJ bl w0 a w->(IU A φ bx (kn A.O (dX s n p) st)).aD Q->s.size-p<n->
  Code.rounds Tryz.prog b (Exit.inBlock id (oG (SY A) N Q mJ w0)) n a w:=by
 obtain⟨ko,o1,o2,rfl,g1,g2,d1,d2,e1,e2⟩:=hc.shape
 intro n
 induction n with
 |zero=>intro p st bl a w _ _ h;omega
 |succ n ih=>
  intro p st bl a w hI hs hn
  rw[rounds_succ]
  refine wp_seq (Wc hA hI g1 g2 d1 d2 e1 e2 hc.k1 hc.k2 hc.hI (fun hp a' w' gy=> ?_) (fun hp a' w' gy=> ?_))
  ·show rest.wp Tryz.prog _ a' w'
   simp only[dX,if_pos hp,kn]at hs
   have hd:=gz s p
   refine wp_mono ((h1 it p (Utf8.decode s p).1).wp (st,bx) bl a' w' (fun xe=>match xe.1 with
    | .normal=>xe.2=⟨⟨aa A.O st,bx⟩,fH tI it⟩∧(IU A φ bx (kn A.O (dX s n (p+(Utf8.decode s p).2)) (aa A.O st))).aD Q
    | .ret=>Q xe
    |_=>False) gy.inv ?_) ?_
   ·refine⟨fun dH=> ?_,fun he=> ?_⟩
    ·have ahC:¬st.ch=((Utf8.decode s p).1:Int):=by simpa using dH
     rw[if_neg ahC]at hs
     exact hs.2 rfl
    ·have DQ:st.ch=((Utf8.decode s p).1:Int):=by simpa using he
     rw[if_pos DQ]at hs
     exact⟨rfl,hs⟩
   ·rintro ex a1 w1 (⟨x1,e1',vu,hq,rfl,gG,cn⟩|⟨rfl,⟨x1,e1'⟩,hq,cz⟩)
    ·obtain⟨⟩|⟨i⟩|⟨l⟩|⟨⟩:=x1
     ·obtain⟨rfl,hq⟩:=hq
      exact ih _ _ _ _ _ (gy.after hA gG cn) hq (by omega)
     ·exact hq.elim
     ·exact hq.elim
     ·exact .inl ⟨.ret,_,_,hq,rfl,gG,gy.ext.trans cn⟩
    ·refine .inr ⟨rfl,?_⟩
     obtain⟨⟩|⟨i⟩|⟨l⟩|⟨⟩:=x1
     ·obtain⟨rfl,hq⟩:=hq
      have key:∀(rs:List Int) (st:St),zR<=st.ab.length->(IU A φ bx (kn A.O rs st)).aD Q->∃q,Q q∧(SY A).eM q.2.c.st:=by
       intro rs
       induction rs with
       |nil=>intro st hb h;exact⟨_,h.1 rfl,hb⟩
       |cons r rs ihr=>
        intro st hb h
        simp only[kn]at h
        split at h
        ·exact ihr _ (Nat.le_trans hb (kZ A.O st)) h
        ·exact⟨_,h.2 rfl,Nat.le_trans hb (C1 st)⟩
      exact key _ _ cz hq
     ·exact hq.elim
     ·exact hq.elim
     ·exact⟨_,hq,cz⟩
  ·show rest.wp Tryz.prog _ a' w'
   simp only[dX,if_neg hp,kn]at hs
   refine wp_mono ((h0 it).wp (st,bx) bl a' w' (fun xe=>xe=(.exit id,kG A (st,bx))∧Q (.normal,kG A (st,bx))) gy.inv ⟨rfl,hs.1 rfl⟩) ?_
   rintro ex a1 w1 (⟨x1,e1',vu,⟨hq,ui⟩,rfl,gG,cn⟩|⟨rfl,⟨x1,e1'⟩,⟨hq,ui⟩,cz⟩)
   ·simp only[Prod.mk.injEq]at hq
    obtain⟨rfl,rfl⟩:=hq
    simp only[Ex.oN,Exit.then,Exit.inBlock,if_true]
    exact .inl ⟨.normal,_,_,ui,rfl,gG,gy.ext.trans cn⟩
   ·simp only[Prod.mk.injEq]at hq
    obtain⟨rfl,rfl⟩:=hq
    exact .inr ⟨rfl,_,ui,cz⟩
theorem A2{A:Ad}{φ:St->St}(C1:∀st,st.ab.length<=(φ st).ab.length){bx:List Value}{Q:Ex×E (SY A)->Prop}:∀(rs:List Int) (st:St),zR<=st.ab.length->(IU A φ bx (kn A.O rs st)).aD Q->∃q,Q q∧(SY A).eM q.2.c.st
 |[],st,hb,h=>⟨_,h.1 rfl,hb⟩
 |r::rs,st,hb,h=>by
  simp only[kn]at h
  split at h
  ·exact A2 C1 rs _ (Nat.le_trans hb (kZ A.O st)) h
  ·exact⟨_,h.2 rfl,Nat.le_trans hb (C1 st)⟩
theorem Q8{A:Ad}(hA:A.Ok){N tI tK tB id:Nat}{R b rest:Code}(hc:nf N tI tK tB id b rest)(s:U)(φ:St->St)(C1:∀st,st.ab.length<=(φ st).ab.length)
 (h1:∀(it p:Nat) (r:Int),At (SY A) N rest (yD A tI tK tB it p r) (fun q=> .aj (q.1.ch != r) (.ae (.ret,⟨⟨φ q.1,q.2⟩,[]⟩)) (.ae (.normal,⟨⟨aa A.O q.1,q.2⟩,fH tI it⟩))))
 (h0:∀it:Nat,At (SY A) N rest (E2 A tI tK tB it) (fun q=> .ae (.exit id,kG A q))){F:St×List Value->E (SY A)}(hF:∀q,(F q).c=⟨q.1,q.2⟩)
 (hR:∀(q:St×List Value) (bl:List Nat) (a:Act) (w:World) (Qx:Exit->Act->World->Prop),cL (SY A) N (F q) bl a w->(∀a' w',gW A N w.heap.size s 0 ⟨⟨q.1,q.2⟩,fH tI w.heap.size⟩ bl bl w a' w'->Qx .normal a' w')->R.wp Tryz.prog Qx a w):
 At (SY A) N (.seq R (.block id (.loop b))) F (fun q=>IU A φ q.2 (kn A.O (dX s (s.size+1) 0) q.1)) where
 mono:=fun q Q hb hs=>A2 C1 _ _ (by rw[hF]at hb;exact hb) hs
 wp:=fun q bl a w Q hI hs=>by
  refine wp_seq (hR q bl a w _ hI (fun a' w' gy=> ?_))
  show(Code.block id (.loop b)).wp Tryz.prog _ a' w'
  exact wp_block (wp_loop_rounds (s.size+1) (C0 hA hc s φ C1 h1 h0 q.2 (s.size+1) 0 q.1 bl a' w' gy hs (by omega)))
theorem A3(O:U)(st:St):On O st (cH O st).2:=by
 unfold cH
 refine sW (body:=nQ O) (μ:=left O) (fun a=>a) (fun q:Bool×St=>q.2) (fun _=>True) (fun a _=>⟨fun h=>⟨fun _=>(aR _ _).trans (aR _ _),fun _=>⟨⟨trivial,aR _ _⟩,aQ O a (fun e=>by rw[e]at h;cases h)⟩⟩,fun _=>On.refl _ _⟩) st trivial
theorem Q9(O:U)(st:St):On O st (pR O st).2:=by
 unfold pR
 refine sW (body:=scB O) (μ:=left O) (fun a=>a) (fun q:Bool×St=>q.2) (fun _=>True) (fun a _=> ?_) st trivial
 have on:=CG O a
 exact⟨fun h=>⟨fun _=>A3 O a,fun h2=>⟨⟨trivial,(A3 O a).trans (aR _ _)⟩,(on.1 h).2 h2⟩⟩,fun _=>On.refl _ _⟩
theorem dK(O:U)(st:St):On O st (aT O st).2:=by
 unfold aT
 split
 ·exact Q9 O st
 ·exact(Q9 O st).trans (iu _ _ _ _)
theorem kz(O:U):∀(rs:List Int) (st:St),On O st (kn O rs st).2
 |[],st=>On.refl _ _
 |r::rs,st=>by
  simp only[kn]
  split
  ·exact(aR _ _).trans (kz O rs _)
  ·exact On.refl _ _
theorem gW.begin{A:Ad}(hA:A.Ok){N:Nat}{e:E (SY A)}{bl:List Nat}{a:Act}{w:World}(h:cL (SY A) N e bl a w)(s:U){tI:Nat}(hd:iF N (some tI)=true)(h0:Ev.look e.tm 0= .st 0)(hI:tI≠0):
 gW A N w.heap.size s 0 ⟨e.c,fH tI w.heap.size⟩ bl bl w (a.put (some tI) (.pointer (some ⟨w.heap.size,0,none⟩))) (w.iter s 0):=by
 obtain⟨x,hx,ha⟩:=h.core.inv
 have hk:=qV hx (.stringIter s 0)
 have l1:=LW hx
 have l2:=qU hx
 have eJ:=hx.gj
 have hC:fu (SY A) bl e.c (w.iter s 0):=by
  refine⟨⟨x,hx.kept hk,ha⟩,h.core.len,h.core.nd,fun i b u hb hu=> ?_,fun b hb=> ?_⟩
  ·have bz:=(h.core.free b (List.mem_of_getElem? hb)).2
   show(w.alloc _).cell? _=_∧(w.alloc _).frozen? _=_
   rw[World.cell?_alloc_lt _ _ _ bz,World.frozen?_alloc_old _ _ _ (Nat.ne_of_lt bz)]
   exact h.core.cell i b u hb hu
  ·show¬_∧b<(w.alloc _).heap.size
   rw[show ij (w.iter s 0) b=ij w b from nB _ _ _ (h.core.free b hb).2]
   exact⟨(h.core.free b hb).1,by simp;have:=(h.core.free b hb).2;omega⟩
 have hrel:∀i,Rel (SY A) bl (w.iter s 0) (Ev.look e.tm i) (a.tmps.getD i undef):=fun i=>nC (h.rel i) (List.prefix_refl _) (fun o=>World.cell?_alloc_lt (w:=w) (a:=⟨A.buf,o,none⟩) _ (by show A.buf<_;omega))
 have h1:cL (SY A) N ⟨e.c,(tI,.val (.pointer (some ⟨w.heap.size,0,none⟩)))::e.tm⟩ bl (a.put (some tI) (.pointer (some ⟨w.heap.size,0,none⟩))) (w.iter s 0):=
  ⟨hC,by rw[put_defers];exact h.defers,by rw[mM];exact h.size,oQ (d:=some tI) (sv:= .val _) h.size hd hrel rfl⟩
 refine⟨h1.lax (q9 rfl ⟨.inl ?_,.inl ?_,trivial⟩),World.iter_heap w s 0,fun hm=> ?_,?_,Nat.le_refl _,⟨oP _ _,List.prefix_refl _,fun b hb=> .inl hb⟩⟩
 ·show Ev.look ((tI,_)::e.tm) 0=_
  rw[aF,if_neg (fun e=>hI e.symm)];exact h0
 ·show Ev.look ((tI,_)::e.tm) tI=_
  rw[aF,if_pos rfl]
 ·exact absurd (h.core.free _ hm).2 (Nat.lt_irrefl _)
 ·have:=hx.below.size;omega
theorem Nj{A:Ad}(hA:A.Ok){N tI id:Nat}{o:Oper}{s:U}(hg:o.guard=none)(hd:o.dst=some tI)(k1:iF N (some tI)=true)(hI:tI≠0){e:E (SY A)}{bl:List Nat}{a:Act}{w:World}(h:cL (SY A) N e bl a w)(h0:Ev.look e.tm 0= .st 0)
 (ho:(execOp a.eval o).run Tryz.prog w= .ok (.value (.pointer (some ⟨w.heap.size,0,none⟩))) (w.iter s 0)){Qx:Exit->Act->World->Prop}(hQ:∀a' w',gW A N w.heap.size s 0 ⟨e.c,fH tI w.heap.size⟩ bl bl w a' w'->Qx .normal a' w'):
 (Code.region id #[o] false).wp Tryz.prog Qx a w:=by
 refine wp_region_list ?_
 show wpList Tryz.prog #[o] Qx [o] a w
 unfold wpList
 rw[if_pos (by simp[Region.wanted,hg])]
 refine .inl ?_
 unfold Oper.wp
 rw[ho,Oper.upon_value,hd]
 unfold wpList
 exact hQ _ _ (gW.begin hA h s k1 h0 hI)
theorem Nk{A:Ad}(hA:A.Ok){N tS tM tI id ty:Nat}{o1 o2:Oper}{s:U}(g1:o1.guard=none)(g2:o2.guard=none)(d1:o1.dst=some tM)(d2:o2.dst=some tI)(e1:o1.op= .move (.tmp tS))(e2:o2.op= .range ty (.tmp tM))(xT:Tryz.prog.underlying ty=some .string)
 (k1:iF N (some tM)=true)(k2:iF N (some tI)=true)(hM:tM≠0)(hI:tI≠0){e:E (SY A)}{bl:List Nat}{a:Act}{w:World}(h:cL (SY A) N e bl a w)(h0:Ev.look e.tm 0= .st 0)(hs:Ev.look e.tm tS= .val (.string s))
 {Qx:Exit->Act->World->Prop}(hQ:∀a' w',gW A N w.heap.size s 0 ⟨e.c,fH tI w.heap.size⟩ bl bl w a' w'->Qx .normal a' w'):
 (Code.region id #[o1,o2] false).wp Tryz.prog Qx a w:=by
 refine wp_region_list ?_
 show wpList Tryz.prog #[o1,o2] Qx [o1,o2] a w
 have hv:a.tmps.getD tS undef= .string s:=by
  have:=h.rel tS
  rw[hs]at this
  exact this
 unfold wpList
 rw[if_pos (by simp[Region.wanted,g1])]
 refine .inl ?_
 unfold Oper.wp
 have r1:(execOp a.eval o1).run Tryz.prog w= .ok (.value (.string s)) w:=by
  unfold execOp
  simp only[e1]
  have he:a.eval (.tmp tS)= .string s:=hv
  rw[he]
  simp
 rw[r1,Oper.upon_value,d1]
 have h2:cL (SY A) N ⟨e.c,(tM,.val (.string s))::e.tm⟩ bl (a.put (some tM) (.string s)) w:=
  ⟨h.core,by rw[put_defers];exact h.defers,by rw[mM];exact h.size,oQ (d:=some tM) (sv:= .val _) h.size k1 h.rel rfl⟩
 unfold wpList
 rw[if_pos (by simp[Region.wanted,g2])]
 refine .inl ?_
 unfold Oper.wp
 have r2:(execOp (a.put (some tM) (.string s)).eval o2).run Tryz.prog w= .ok (.value (.pointer (some ⟨w.heap.size,0,none⟩))) (w.iter s 0):=by
  unfold execOp
  simp only[e2]
  have he:(a.put (some tM) (.string s)).eval (.tmp tM)= .string s:=by
   have bz:tM<a.tmps.size:=by rw[h.size];exact Nat.le_of_ble_eq_true k1
   simp[Act.eval,Act.put,bz]
  rw[he]
  simp[run_range_string _ _ _ xT]
 rw[r2,Oper.upon_value,d2]
 unfold wpList
 refine hQ _ _ (gW.begin hA h2 s k2 ?_ hI)
 show Ev.look ((tM,_)::e.tm) 0=_
 rw[aF,if_neg (fun e=>hM e.symm)];exact h0
def mB(m k:Int):Int:=IntKind.u64.wrap ↑(BitVec.ofInt IntKind.u64.bits m&&&BitVec.ofInt IntKind.u64.bits k).toNat
def vP(O:U)(st:St):St:=ld (fG O (skip O cm st)) (skip O cm st)
def fZ(O:U)(st:St):St:=skip O cm (stop st)
def qD(O:U)(st:St):St:=if(aT O st).1=true then ld (fG O (aT O st).2) (aT O st).2 else(aT O st).2
def gK(O:U)(st:St):St:=(aT O (stop st)).2
def ku(O:U)(s:U)(φ ψ:St->St)(st:St):St:=
 if(kn O (dX s (s.size+1) 0) st).1=true then ψ (kn O (dX s (s.size+1) 0) st).2 else φ (kn O (dX s (s.size+1) 0) st).2
def goW:U:=ByteArray.mk #[103,111,58]
def lj:U:=ByteArray.mk #[108,105,110,101,32]
def bp(O:U)(st:St):St:=
 if mB st.mode 1≠0 then vP O st else if mB st.mode 2=0∨(st.ch≠103∧st.ch≠108)then fZ O st
 else ku O (if st.ch=108 then lj else goW) (fZ O) (vP O) st
def aJ(O:U)(st:St):St:=
 if mB st.mode 1≠0 then qD O st else if mB st.mode 2=0∨st.ch≠108 then gK O st
 else ku O lj (gK O) (qD O) st
theorem j7(O:U)(st:St):On O st (vP O st):=(dq _ _ _).trans (sJ _ _ _ _ _)
theorem j8(O:U)(st:St):On O st (qD O st):=by
 unfold qD
 split
 ·exact(dK _ _).trans (sJ _ _ _ _ _)
 ·exact dK _ _
theorem rb(O:U)(st:St):st.ab.length<=(fZ O st).ab.length:=(dq O cm (stop st)).len
theorem rf(O:U)(st:St):st.ab.length<=(gK O st).ab.length:=(dK O (stop st)).len
theorem A4{O s:U}{φ ψ:St->St}(C1:∀st,st.ab.length<=(φ st).ab.length)(Wd:∀st,st.ab.length<=(ψ st).ab.length)(st:St):st.ab.length<=(ku O s φ ψ st).ab.length:=by
 have:=(kz O (dX s (s.size+1) 0) st).len
 unfold ku
 split
 ·exact Nat.le_trans this (Wd _)
 ·exact Nat.le_trans this (C1 _)
theorem wu(O:U)(st:St):st.ab.length<=(bp O st).ab.length:=by
 unfold bp
 split
 ·exact(j7 _ _).len
 ·split
  ·exact rb _ _
  ·exact A4 (rb O) (fun st=>(j7 O st).len) st
theorem wv(O:U)(st:St):st.ab.length<=(aJ O st).ab.length:=by
 unfold aJ
 split
 ·exact(j8 _ _).len
 ·split
  ·exact rf _ _
  ·exact A4 (rf O) (fun st=>(j8 O st).len) st
theorem Nl{Y:Ev.Sys}{e e' JZ:E Y}(h:fF e e')(h':fF e' JZ):fF e JZ:=by
 refine⟨h'.1.trans h.1,fun i=> ?_⟩
 rcases h'.2 i with h1|h1|⟨v,h1,h2⟩
 ·exact .inl h1
 ·rw[h1];exact h.2 i
 ·rcases h.2 i with h3|h3|⟨u,h3,h4⟩
  ·rw[h3]at h1;cases h1
  ·rw[h3]at h1;exact .inr (.inr ⟨v,h1,h2⟩)
  ·rw[h4]at h1
   have:u=v:=by simpa[iE] using h1
   subst this
   exact .inr (.inr ⟨u,h3,h2⟩)
theorem At.IV{Y:Ev.Sys}(hY:Laws Y){C:eS Y}(hC:C.Ok){c:Code}(n:Nat)(hc:jw n c=true){π ρ:Type}{F:π->E Y}{F':ρ->E Y}{gb:ρ->af (Ex×E Y)}(hB:At Y C.N (ah n c) F' gb)(bm:Ex->List Nat)
 {g:π->af (Ex×E Y)}(h:∀p (Q:Ex×E Y->Prop),(g p).aD Q->((az C (ck n c) (F p)).bind (fun xe=> .ae (xe.1,cU (bm xe.1) xe.2))).aD fun xe=>match xe.1 with
  | .normal=>∃q,fF xe.2 (F' q)∧(gb q).aD Q
  |_=>Q xe):At Y C.N c F g:=by
 have h2:∀p (Q:Ex×E Y->Prop),(g p).aD Q->(az C (ck n c) (F p)).aD fun xe=>match xe.1 with
  | .normal=>∃q,fF xe.2 (F' q)∧(gb q).aD (fun xe=>∃e',fF xe.2 e'∧Q (xe.1,e'))
  |_=>∃e',fF xe.2 e'∧Q (xe.1,e'):=fun p Q hs=>by
  have h1:=h p Q hs
  rw[ax]at h1
  refine an h1 (fun xe hx=> ?_)
  obtain⟨x,e⟩:=xe
  obtain⟨⟩|⟨i⟩|⟨l⟩|⟨⟩:=x
  ·obtain⟨q,hl,hq⟩:=hx
   exact⟨q,Nl (iU _ _) hl,an hq (fun xe hq=>⟨_,fF.refl _,hq⟩)⟩
  ·exact⟨_,iU _ _,hx⟩
  ·exact⟨_,iU _ _,hx⟩
  ·exact⟨_,iU _ _,hx⟩
 constructor
 ·intro p bl a w Q hI hs
  refine wp_mono (Qc hY hC n c _ _ (EF hc) hB (F p) bl a w (fun xe=>∃e',fF xe.2 e'∧Q (xe.1,e')) hI (an (h2 p Q hs) (fun xe hx=> ?_))) (fun _ _ _ hp=>xZ hp)
  obtain⟨x,e⟩:=xe
  obtain⟨⟩|⟨i⟩|⟨l⟩|⟨⟩:=x<;>exact hx
 ·intro p Q hb hs
  obtain⟨⟨x2,e2⟩,ui,fm⟩:=fV hY hC (ck n c) (F p) _ hb (h2 p Q hs)
  have fin:∀(x:Ex) (e:E Y),(∃e',fF e e'∧Q (x,e'))->Y.eM e.c.st->∃q,Q q∧Y.eM q.2.c.st:=fun x e ⟨e',hl,hq⟩ hb=>⟨_,hq,by show Y.eM e'.c.st;rw[hl.1];exact hb⟩
  obtain⟨⟩|⟨id⟩|⟨l⟩|⟨⟩:=x2
  ·obtain⟨q,hl,hs⟩:=ui
   obtain⟨⟨x,e⟩,hq,hb3⟩:=hB.mono q _ (by rw[hl.1];exact fm) hs
   exact fin x e hq hb3
  ·exact fin _ _ ui fm
  ·exact fin _ _ ui fm
  ·exact fin _ _ ui fm
def wZ:Code->Code
 | .seq a _=>a
 |c=>c
def We:Code->Array Oper
 | .seq (.region _ os _) _=>os
 | .region _ os _=>os
 |_=>#[]
def opAt(c:Code)(i:Nat):Oper:=(We c).getD i default
def vQ(t:Nat):Ex->List Nat
 | .ret=>[]
 | .normal=>[0,t]
 |_=>[0]
theorem yE{A:Ad}(hA:A.Ok){C:eS (SY A)}(hC:C.Ok){tI tK tB id:Nat}{R b rest:Code}(hc:nf C.N tI tK tB id b rest)(s:U)(φ:St->St)(C1:∀st,st.ab.length<=(φ st).ab.length)
 (hm:∀(st:St) (bx:List Value) (it p:Nat) (r:Int),(az C rest (yD A tI tK tB it p r (st,bx))).bind (fun xe=> .ae (xe.1,cU (vQ tI xe.1) xe.2))=
   .aj true (.aj (st.ch != r) (.ae (.ret,⟨⟨φ st,bx⟩,[]⟩)) (.ae (.normal,⟨⟨aa A.O st,bx⟩,fH tI it⟩))) (.ae (.exit id,⟨⟨st,bx⟩,[(0,.st 0)]⟩)))
 (he:∀(st:St) (bx:List Value) (it:Nat),(az C rest (E2 A tI tK tB it (st,bx))).bind (fun xe=> .ae (xe.1,cU (vQ tI xe.1) xe.2))= .aj false .fail (.ae (.exit id,⟨⟨st,bx⟩,[(0,.st 0)]⟩)))
 {F:St×List Value->E (SY A)}(hF:∀q,(F q).c=⟨q.1,q.2⟩)
 (hR:∀(q:St×List Value) (bl:List Nat) (a:Act) (w:World) (Qx:Exit->Act->World->Prop),cL (SY A) C.N (F q) bl a w->(∀a' w',gW A C.N w.heap.size s 0 ⟨⟨q.1,q.2⟩,fH tI w.heap.size⟩ bl bl w a' w'->Qx .normal a' w')->R.wp Tryz.prog Qx a w):
 At (SY A) C.N (.seq R (.block id (.loop b))) F (fun q=>IU A φ q.2 (kn A.O (dX s (s.size+1) 0) q.1)):=by
 refine Q8 hA hc s φ C1 (fun it p r=>At.qB (db A hA) hC (vQ tI) (fun q Q hs=> ?_)) (fun it=>At.qB (db A hA) hC (vQ tI) (fun q Q hs=> ?_)) hF hR
 ·exact bB (hm q.1 q.2 it p r) ⟨fun _=>hs,fun h=>by cases h⟩
 ·exact bB (he q.1 q.2 it) ⟨(fun h=>by cases h),fun _=>hs⟩
def Wg(A:Ad)(s:U)(φ:St->St)(tl:St×List Value->af (Ex×E (SY A)))(q:St×List Value):af (Ex×E (SY A)):=
 .aj (kn A.O (dX s (s.size+1) 0) q.1).1 (tl ((kn A.O (dX s (s.size+1) 0) q.1).2,q.2)) (.ae (.ret,⟨⟨φ (kn A.O (dX s (s.size+1) 0) q.1).2,q.2⟩,[]⟩))
theorem go_at{A:Ad}{N:Nat}{c1 c2:Code}{F:St×List Value->E (SY A)}{s:U}{φ:St->St}(h1:At (SY A) N c1 F (fun q=>IU A φ q.2 (kn A.O (dX s (s.size+1) 0) q.1))){tl:St×List Value->af (Ex×E (SY A))}(h2:At (SY A) N c2 (kG A) tl):
 At (SY A) N (.seq c1 c2) F (Wg A s φ tl):=
 At.seq h1 h2 (fun q Q hs=>⟨fun h=>⟨_,fF.refl _,hs.1 h⟩,fun h=>hs.2 h⟩)
abbrev Zp:Nat:=Tryz.f72.ntmps
abbrev n_:Code:=av Tryz.f72
abbrev lk:Code:=a_ (aX n_ 0)
abbrev Nn(A:Ad):eS (SY A):=IK A Zp
abbrev KD:Code:=wZ (wZ (ah 4 n_))
theorem Wh(A:Ad)(st:St)(bx:List Value)(it p:Nat)(r:Int):(az (Nn A) (ah 1 lk) (yD A 55 56 57 it p r (st,bx))).bind (fun xe=> .ae (xe.1,cU (vQ 55 xe.1) xe.2))=
 (.aj true (.aj (st.ch != r) (.ae (.ret,⟨⟨fZ A.O st,bx⟩,[]⟩)) (.ae (.normal,⟨⟨aa A.O st,bx⟩,fH 55 it⟩))) (.ae (.exit 0,⟨⟨st,bx⟩,[(0,.st 0)]⟩))):=by kernel_rfl
theorem aa7(A:Ad)(st:St)(bx:List Value)(it:Nat):(az (Nn A) (ah 1 lk) (E2 A 55 56 57 it (st,bx))).bind (fun xe=> .ae (xe.1,cU (vQ 55 xe.1) xe.2))=
 (.aj false .fail (.ae (.exit 0,⟨⟨st,bx⟩,[(0,.st 0)]⟩))):=by kernel_rfl
theorem Q_:lk= .seq (.region 10 #[opAt lk 0,opAt lk 1] false) (ah 1 lk):=by kernel_rfl
theorem aeD:nf Zp 55 56 57 0 lk (ah 1 lk) where
 shape:=⟨10,opAt lk 0,opAt lk 1,Q_,by kernel_rfl,by kernel_rfl,by kernel_rfl,by kernel_rfl,by kernel_rfl,by kernel_rfl⟩
 k1:=by kernel_rfl
 k2:=by kernel_rfl
 hI:=by decide
theorem aa8:ah 4 n_= .seq (.seq KD (.block 0 (.loop lk))) (ah 5 n_):=by kernel_rfl
theorem Wi:KD= .region 9 #[opAt KD 0,opAt KD 1] false:=by kernel_rfl
def No(A:Ad)(q:St×List Value):af (Ex×E (SY A)):=
 (.aY ((skip A.O cm q.1).b.isSome=true) (.ae (.normal,⟨⟨vP A.O q.1,q.2⟩,[]⟩)))
theorem Wj(A:Ad)(st:St)(bx:List Value):(az (Nn A) (ah 5 n_) (kG A (st,bx))).bind (fun xe=> .ae (xe.1,cU [] xe.2))=No A (st,bx):=by kernel_rfl
def Wk(A:Ad)(s:U)(q:St×List Value):E (SY A):=⟨⟨q.1,q.2⟩,[(0,.st 0),(2,.val (.string s))]⟩
theorem aa9(A:Ad)(hA:A.Ok)(s:U):At (SY A) Zp (ah 4 n_) (Wk A s) (Wg A s (fZ A.O) (No A)):=by
 rw[aa8]
 refine go_at (yE hA (C:=Nn A) (bw A hA (gl A hA) Zp [] 0) aeD s (fZ A.O) (rb A.O) (Wh A) (aa7 A) (fun _=>rfl) (fun q bl a w Qx hI hQ=> ?_)) (At.same (db A hA) (bw A hA (gl A hA) Zp [] 0) (fun _=>[]) (fun q=>Wj A q.1 q.2))
 rw[Wi]
 exact Nk hA (tS:=2) (tM:=54) (ty:=9) (by kernel_rfl) (by kernel_rfl) (by kernel_rfl) (by kernel_rfl) (by kernel_rfl) (by kernel_rfl) (by kernel_rfl) (by kernel_rfl) (by kernel_rfl) (by decide) (by decide) hI rfl rfl hQ
def Zq:Ex->List Nat
 | .normal=>[0,2]
 |_=>[]
def lcT(A:Ad)(B:Bool->af (Ex×E (SY A)))(st:St)(bx:List Value):af (Ex×E (SY A)):=
 (.aj (mB st.mode 1 != 0)
   (.aY ((skip A.O cm st).b.isSome=true)
     (.ae (.ret,⟨⟨vP A.O st,bx⟩,[]⟩)))
   (.aj (mB st.mode 2==0)
     (.ae (.ret,⟨⟨fZ A.O st,bx⟩,[]⟩))
     (.aj (st.ch != 103)
       (.aj (st.ch != 108)
         (.ae (.ret,⟨⟨fZ A.O st,bx⟩,[]⟩))
         (.aj (st.ch==108) (B true) (B false)))
       (.aj (st.ch==108) (B true) (B false)))))
theorem Wl(A:Ad)(st:St)(bx:List Value):(az (Nn A) (ck 4 n_) (kG A (st,bx))).bind (fun xe=> .ae (xe.1,cU (Zq xe.1) xe.2))=
 lcT A (fun b=> .ae (.normal,Wk A (if b=true then lj else goW) (st,bx))) st bx:=by kernel_rfl
theorem Wm:(Tryz.f72).body=some n_:=by kernel_rfl
def lcG(A:Ad)(q:St×List Value):af (Ex×E (SY A)):=lcT A (fun b=>Wg A (if b=true then lj else goW) (fZ A.O) (No A) q) q.1 q.2
theorem aeE(A:Ad)(hA:A.Ok):At (SY A) Zp n_ (kG A) (lcG A):=by
 refine At.IV (db A hA) (C:=Nn A) (bw A hA (gl A hA) Zp [] 0) 4 (by kernel_rfl) (ρ:=(St×List Value)×Bool) (F':=fun r=>Wk A (if r.2=true then lj else goW) r.1) (gb:=fun r=>Wg A (if r.2=true then lj else goW) (fZ A.O) (No A) r.1) ?_ Zq (fun q Q hs=> ?_)
 ·exact At.par (F:=fun(k:Bool) (q:St×List Value)=>Wk A (if k=true then lj else goW) q) (g:=fun k q=>Wg A (if k=true then lj else goW) (fZ A.O) (No A) q) (fun k=>aa9 A hA _)
 ·refine bB (Wl A q.1 q.2) ?_
  refine⟨hs.1,fun h1=>⟨(hs.2 h1).1,fun h2=>⟨fun h3=>⟨(((hs.2 h1).2 h2).1 h3).1,fun h4=>⟨fun h5=> ?_,fun h5=> ?_⟩⟩,fun h3=>⟨fun h5=> ?_,fun h5=> ?_⟩⟩⟩⟩
  ·exact⟨(q,true),fF.refl _,(((((hs.2 h1).2 h2).1 h3).2 h4).1 h5)⟩
  ·exact⟨(q,false),fF.refl _,(((((hs.2 h1).2 h2).1 h3).2 h4).2 h5)⟩
  ·exact⟨(q,true),fF.refl _,((((hs.2 h1).2 h2).2 h3).1 h5)⟩
  ·exact⟨(q,false),fF.refl _,((((hs.2 h1).2 h2).2 h3).2 h5)⟩
theorem go_sat{A:Ad}{s:U}{φ ψ:St->St}{tl:St×List Value->af (Ex×E (SY A))}{Q:Ex×E (SY A)->Prop}{st:St}{bx:List Value}(hb:st.b.isSome=true)
 (htl:∀aO,aO.b.isSome=true->(∀x e,(x= .normal∨x= .ret)->e.c=(⟨ψ aO,bx⟩:aq (SY A))->Q (x,e))->(tl (aO,bx)).aD Q)
 (hQ:∀x e,(x= .normal∨x= .ret)->e.c=(⟨ku A.O s φ ψ st,bx⟩:aq (SY A))->Q (x,e)):(Wg A s φ tl (st,bx)).aD Q:=by
 have fX:(kn A.O (dX s (s.size+1) 0) st).2.b.isSome=true:=by rw[(kz A.O (dX s (s.size+1) 0) st).b];exact hb
 refine⟨fun h=>htl _ fX (fun x e hx he=>hQ x e hx (he.trans ?_)),fun h=>hQ _ _ (.inr rfl) ?_⟩
 ·have h:(kn A.O (dX s (s.size+1) 0) st).1=true:=h
  unfold ku;rw[if_pos h]
 ·have h:(kn A.O (dX s (s.size+1) 0) st).1=false:=h
  unfold ku;rw[if_neg (by rw[h];decide)]
def aeF(A:Ad):ej (SY A):=⟨72,#[],true,oX A (fun st=>st.b.isSome=true) (bp A.O)⟩
theorem Wn(A:Ad)(hA:A.Ok):(aeF A).Ok:=by
 refine Zf (A:=A) Tryz.func72 Wm (N:=Zp) rfl (by decide) rfl (fun args w=>by kernel_rfl) (g:=lcG A) (aeE A hA) (fun st bx Q hb hQ=> ?_) (wu A.O)
 have hsk:(skip A.O cm st).b.isSome=true:=by rw[(dq _ _ _).b];exact hb
 have go:∀s,(∀x e,(x= .normal∨x= .ret)->e.c=(⟨ku A.O s (fZ A.O) (vP A.O) st,bx⟩:aq (SY A))->Q (x,e))->(Wg A s (fZ A.O) (No A) (st,bx)).aD Q:=fun s hq=>
  go_sat hb (fun aO fX rP=>⟨by rw[(dq _ _ _).b];exact fX,rP _ _ (.inl rfl) rfl⟩) hq
 unfold bp at hQ
 refine⟨fun h1=>⟨hsk,hQ _ _ (.inr rfl) ?_⟩,fun h1=>⟨fun h2=>hQ _ _ (.inr rfl) ?_,fun h2=>⟨fun h3=>⟨fun h4=>hQ _ _ (.inr rfl) ?_,fun h4=>⟨fun h5=>go _ (fun x e hx he=>hQ x e hx (he.trans ?_)),fun h5=> ?_⟩⟩,fun h3=>⟨fun h5=> ?_,fun h5=>go _ (fun x e hx he=>hQ x e hx (he.trans ?_))⟩⟩⟩⟩
 all_goals simp_all
abbrev Zr:Nat:=Tryz.f73.ntmps
abbrev oa:Code:=av Tryz.f73
abbrev ln:Code:=a_ (aX oa 0)
abbrev Nq(A:Ad):eS (SY A):=IK A Zr
abbrev E3:Code:=wZ (wZ (ah 2 oa))
theorem Wo(A:Ad)(st:St)(bx:List Value)(it p:Nat)(r:Int):(az (Nq A) (ah 1 ln) (yD A 39 40 41 it p r (st,bx))).bind (fun xe=> .ae (xe.1,cU (vQ 39 xe.1) xe.2))=
 (.aj true (.aj (st.ch != r) (.ae (.ret,⟨⟨gK A.O st,bx⟩,[]⟩)) (.ae (.normal,⟨⟨aa A.O st,bx⟩,fH 39 it⟩))) (.ae (.exit 0,⟨⟨st,bx⟩,[(0,.st 0)]⟩))):=by kernel_rfl
theorem aa_(A:Ad)(st:St)(bx:List Value)(it:Nat):(az (Nq A) (ah 1 ln) (E2 A 39 40 41 it (st,bx))).bind (fun xe=> .ae (xe.1,cU (vQ 39 xe.1) xe.2))=
 (.aj false .fail (.ae (.exit 0,⟨⟨st,bx⟩,[(0,.st 0)]⟩))):=by kernel_rfl
theorem Ra:ln= .seq (.region 7 #[opAt ln 0,opAt ln 1] false) (ah 1 ln):=by kernel_rfl
theorem aeG:nf Zr 39 40 41 0 ln (ah 1 ln) where
 shape:=⟨7,opAt ln 0,opAt ln 1,Ra,by kernel_rfl,by kernel_rfl,by kernel_rfl,by kernel_rfl,by kernel_rfl,by kernel_rfl⟩
 k1:=by kernel_rfl
 k2:=by kernel_rfl
 hI:=by decide
theorem aba:ah 2 oa= .seq (.seq E3 (.block 0 (.loop ln))) (ah 3 oa):=by kernel_rfl
theorem Wp:E3= .region 6 #[opAt E3 0] false:=by kernel_rfl
def abb(A:Ad)(q:St×List Value):af (Ex×E (SY A)):=
 (.aj ((aT A.O q.1).fst)
   (.aY ((aT A.O q.1).snd.b.isSome=true)
     (.ae (.normal,⟨⟨ld (fG A.O (aT A.O q.1).snd) (aT A.O q.1).snd,q.2⟩,[]⟩)))
   (.ae (.normal,⟨⟨(aT A.O q.1).snd,q.2⟩,[]⟩)))
theorem Wq(A:Ad)(st:St)(bx:List Value):(az (Nq A) (ah 3 oa) (kG A (st,bx))).bind (fun xe=> .ae (xe.1,cU [] xe.2))=abb A (st,bx):=by kernel_rfl
theorem aeH(a:Act)(w:World):(execOp a.eval (opAt E3 0)).run Tryz.prog w= .ok (.value (.pointer (some ⟨w.heap.size,0,none⟩))) (w.iter lj 0):=by
 have e:(opAt E3 0).op= .range 9 (.const (.string lj)):=by kernel_rfl
 unfold execOp
 simp only[e]
 have h:Tryz.prog.underlying 9=some .string:=by kernel_rfl
 have h2:a.eval (.const (.string lj))= .string lj:=rfl
 rw[h2]
 simp[run_range_string _ _ _ h]
theorem abc(A:Ad)(hA:A.Ok):At (SY A) Zr (ah 2 oa) (kG A) (Wg A lj (gK A.O) (abb A)):=by
 rw[aba]
 refine go_at (yE hA (C:=Nq A) (bw A hA (gl A hA) Zr [] 0) aeG lj (gK A.O) (rf A.O) (Wo A) (aa_ A) (fun _=>rfl) (fun q bl a w Qx hI hQ=> ?_)) (At.same (db A hA) (bw A hA (gl A hA) Zr [] 0) (fun _=>[]) (fun q=>Wq A q.1 q.2))
 rw[Wp]
 exact Nj hA (by kernel_rfl) (by kernel_rfl) (by kernel_rfl) (by decide) hI rfl (aeH a w) hQ
def Zs:Ex->List Nat
 | .normal=>[0]
 |_=>[]
def fcT(A:Ad)(B:af (Ex×E (SY A)))(st:St)(bx:List Value):af (Ex×E (SY A)):=
 (.aj (mB st.mode 1 != 0)
   (.aj ((aT A.O st).fst)
     (.aY ((aT A.O st).snd.b.isSome=true)
       (.ae (.ret,⟨⟨ld (fG A.O (aT A.O st).snd) (aT A.O st).snd,bx⟩,[]⟩)))
     (.ae (.ret,⟨⟨(aT A.O st).snd,bx⟩,[]⟩)))
   (.aj (mB st.mode 2==0)
     (.ae (.ret,⟨⟨gK A.O st,bx⟩,[]⟩))
     (.aj (st.ch != 108)
       (.ae (.ret,⟨⟨gK A.O st,bx⟩,[]⟩))
       B)))
theorem Wr(A:Ad)(st:St)(bx:List Value):(az (Nq A) (ck 2 oa) (kG A (st,bx))).bind (fun xe=> .ae (xe.1,cU (Zs xe.1) xe.2))=
 fcT A (.ae (.normal,kG A (st,bx))) st bx:=by kernel_rfl
theorem Ws:(Tryz.f73).body=some oa:=by kernel_rfl
def fcG(A:Ad)(q:St×List Value):af (Ex×E (SY A)):=fcT A (Wg A lj (gK A.O) (abb A) q) q.1 q.2
theorem aeI(A:Ad)(hA:A.Ok):At (SY A) Zr oa (kG A) (fcG A):=by
 refine At.IV (db A hA) (C:=Nq A) (bw A hA (gl A hA) Zr [] 0) 2 (by kernel_rfl) (abc A hA) Zs (fun q Q hs=> ?_)
 refine bB (Wr A q.1 q.2) ?_
 exact⟨hs.1,fun h1=>⟨(hs.2 h1).1,fun h2=>⟨((hs.2 h1).2 h2).1,fun h3=>⟨q,fF.refl _,((hs.2 h1).2 h2).2 h3⟩⟩⟩⟩
def aeJ(A:Ad):ej (SY A):=⟨73,#[],true,oX A (fun st=>st.b.isSome=true) (aJ A.O)⟩
theorem Wt(A:Ad)(hA:A.Ok):(aeJ A).Ok:=by
 refine Zf (A:=A) Tryz.func73 Ws (N:=Zr) rfl (by decide) rfl (fun args w=>by kernel_rfl) (g:=fcG A) (aeI A hA) (fun st bx Q hb hQ=> ?_) (wv A.O)
 have hsk:∀st:St,st.b.isSome=true->(aT A.O st).2.b.isSome=true:=fun st hb=>by rw[(dK _ _).b];exact hb
 unfold aJ at hQ
 refine⟨fun h1=>⟨fun h2=>⟨hsk st hb,hQ _ _ (.inr rfl) ?_⟩,fun h2=>hQ _ _ (.inr rfl) ?_⟩,fun h1=>⟨fun h2=>hQ _ _ (.inr rfl) ?_,fun h2=>⟨fun h3=>hQ _ _ (.inr rfl) ?_,fun h3=>go_sat (ψ:=qD A.O) hb (fun aO fX rP=>⟨fun h4=>⟨hsk aO fX,rP _ _ (.inl rfl) ?_⟩,fun h4=>rP _ _ (.inl rfl) ?_⟩) (fun x e hx he=>hQ x e hx (he.trans ?_))⟩⟩⟩
 any_goals (unfold qD;simp_all;done)
 all_goals simp_all
def Zt(A:Ad):List (Nat×ej (SY A)):=(72,aeF A)::(73,aeJ A)::(66,aeC A)::Kx A
theorem lq(A:Ad)(hA:A.Ok):bI A (Zt A):=by
 refine bI.cons ?_ (Wn A hA) rfl rfl (fun h=>by cases h)
 refine bI.cons ?_ (Wt A hA) rfl rfl (fun h=>by cases h)
 refine bI.cons ?_ (Wa A hA) rfl rfl (fun h=>by cases h)
 exact gl A hA
abbrev A5:Nat:=Tryz.f48.ntmps
abbrev lr:Code:=wI (av Tryz.f48)
abbrev C2:Code:=a_ (aX lr 0)
abbrev gr(l:Nat):Code:=(findLabel lr l).getD .skip
abbrev Nr(A:Ad):eS (SY A):=iM A (Zt A) A5 [] 0
inductive Fin where
 |done (s:St) (bx:List Value)
 |fP (s:St)
 |zN (s:St)
def td(A:Ad)(nl:Bool):Fin->Ex×E (SY A)
 | .done s bx=>(.ret,⟨⟨s,bx⟩,[]⟩)
 | .fP s=>(.goto 0,⟨⟨s,[]⟩,[(0,.st 0),(2,.val (.bool nl))]⟩)
 | .zN s=>(.goto 1,⟨⟨s,[]⟩,[(0,.st 0)]⟩)
def vR:Ex->List Nat
 | .normal=>[0,2,3,4]
 | .goto 0=>[0,2]
 | .goto _=>[0]
 |_=>[]
def wx(A:Ad)(nl:Bool)(l c:Int)(st:St):E (SY A):=⟨⟨st,[]⟩,[(0,.st 0),(2,.val (.bool nl)),(3,.val (.int .u64 l)),(4,.val (.int .u64 c))]⟩
def Rb:U:=ByteArray.mk #[69,79,70]
def gu:U:=ByteArray.mk #[110,101,119,108,105,110,101]
def vS:U:=ByteArray.mk #[115,101,109,105,99,111,108,111,110]
def fq:U:=ByteArray.mk #[105,110,118,97,108,105,100,32,99,104,97,114,97,99,116,101,114,32,37,35,85]
def tk(t:Int)(st:St):St:={st with tok:=t}
def Hc(o p:Int)(st:St):St:={st with op:=o,prec:=p}
def lit(w:U)(st:St):St:={st with tok:=18,lit:=w}
def lO(st:St):St:={st with au:=true}
def fi(O:U)(seen:Bool)(st:St):af Fin:= .aY (gV O st∧st.ch≠10) (.ae (.done (fp O seen st) [.int .i64 (mz O seen st).inv]))
def te(t:Int)(st:St):af Fin:= .ae (.done (tk t st) [])
def DT(o p:Int)(st:St):af Fin:= .ae (.done (tk 4 (Hc o p st)) [])
def E4(o p:Int)(st:St):af Fin:= .ae (.zN (Hc o p st))
def jM(O:U)(nl:Bool)(st:St):af Fin:=
 .aj (st.ch== -1) (.aj nl (.ae (.done (lit Rb st) [])) (te 1 st))<|
 .aj (st.ch==10) (.ae (.done (lit gu (aa O st)) []))<|
 .aj (st.ch==48) (fi O false st)<|
 .aj (st.ch==49) (fi O false st)<|
 .aj (st.ch==50) (fi O false st)<|
 .aj (st.ch==51) (fi O false st)<|
 .aj (st.ch==52) (fi O false st)<|
 .aj (st.ch==53) (fi O false st)<|
 .aj (st.ch==54) (fi O false st)<|
 .aj (st.ch==55) (fi O false st)<|
 .aj (st.ch==56) (fi O false st)<|
 .aj (st.ch==57) (fi O false st)<|
 .aj (st.ch==34) (.aY (st.b.isSome=true) (.ae (.done (fc O st) [])))<|
 .aj (st.ch==96) (.aY (st.b.isSome=true) (.ae (.done (fb O st) [])))<|
 .aj (st.ch==39) (.aY (st.b.isSome=true) (.ae (.done (yk O st) [])))<|
 .aj (st.ch==40) (te 11 (aa O st))<|
 .aj (st.ch==91) (te 12 (aa O st))<|
 .aj (st.ch==123) (te 13 (aa O st))<|
 .aj (st.ch==44) (te 17 (aa O st))<|
 .aj (st.ch==59) (.ae (.done (lit vS (aa O st)) []))<|
 .aj (st.ch==41) (te 14 (lO (aa O st)))<|
 .aj (st.ch==93) (te 15 (lO (aa O st)))<|
 .aj (st.ch==125) (te 16 (lO (aa O st)))<|
 .aj (st.ch==58) (.aj ((aa O st).ch==61) (te 8 (aa O (aa O st))) (te 19 (aa O st)))<|
 .aj (st.ch==46) (.aj (aE (aa O st).ch) (fi O true (aa O st))
  (.aj ((aa O st).ch==46)
    (.aj ((aa O (aa O st)).ch==46) (te 21 (aa O (aa O (aa O st))))
      (.aY (st.b.isSome=true) (te 20 (aa O (cd O (aa O (aa O st)))))))
    (te 20 (aa O st))))<|
 .aj (st.ch==43) (.aj ((aa O st).ch != 43) (E4 13 4 (aa O st)) (te 6 (lO (aa O (Hc 13 4 (aa O st))))))<|
 .aj (st.ch==45) (.aj ((aa O st).ch != 45) (E4 14 4 (aa O st)) (te 6 (lO (aa O (Hc 14 4 (aa O st))))))<|
 .aj (st.ch==42) (.aj ((aa O st).ch==61) (te 5 (aa O (Hc 17 5 (aa O st)))) (te 10 (Hc 17 5 (aa O st))))<|
 .aj (st.ch==47) (.aj ((aa O st).ch==47) (.aY (st.b.isSome=true) (.ae (.fP (bp O (aa O (aa O st))))))
  (.aj ((aa O st).ch==42) (.aY (st.b.isSome=true)
    (.aj (decide (u64 (1+(aJ O (aa O (aa O st))).aC)>(aJ O (aa O (aa O st))).line))
      (.aj nl (.ae (.done (lit gu (aJ O (aa O (aa O st)))) [])) (.ae (.fP (aJ O (aa O (aa O st))))))
      (.ae (.fP (aJ O (aa O (aa O st)))))))
    (E4 18 5 (aa O st))))<|
 .aj (st.ch==37) (E4 19 5 (aa O st))<|
 .aj (st.ch==38) (.aj ((aa O st).ch==38) (DT 6 2 (aa O (aa O st)))
  (.aj ((aa O st).ch==94) (.ae (.zN {aa O (Hc 20 5 (aa O st))with op:=21})) (E4 20 5 (aa O st))))<|
 .aj (st.ch==124) (.aj ((aa O st).ch==124) (DT 5 1 (aa O (aa O st))) (E4 15 4 (aa O st)))<|
 .aj (st.ch==94) (E4 16 4 (aa O st))<|
 .aj (st.ch==60) (.aj ((aa O st).ch==61) (DT 10 3 (aa O (aa O st)))
  (.aj ((aa O st).ch==60) (E4 22 5 (aa O (aa O st)))
    (.aj ((aa O st).ch==45) (te 9 (aa O (aa O st))) (DT 9 3 (aa O st)))))<|
 .aj (st.ch==62) (.aj ((aa O st).ch==61) (DT 12 3 (aa O (aa O st)))
  (.aj ((aa O st).ch==62) (E4 23 5 (aa O (aa O st))) (DT 11 3 (aa O st))))<|
 .aj (st.ch==61) (.aj ((aa O st).ch==61) (DT 7 3 (aa O (aa O st))) (te 7 (aa O st)))<|
 .aj (st.ch==33) (.aj ((aa O st).ch==61) (DT 8 3 (aa O (aa O st))) (DT 2 0 (aa O st)))<|
 .aj (st.ch==126) (DT 4 0 (aa O st))<|
 .ae (.fP (aa O (error fq st)))
theorem aeK(A:Ad)(nl:Bool)(l c:Int)(st:St):(az (Nr A) (ah 8 (gr 0)) (wx A nl l c st)).bind (fun xe=> .ae (xe.1,cU (vR xe.1) xe.2))=
 (jM A.O nl st).bind fun f=> .ae (td A nl f):=by kernel_rfl
theorem Pos.ch{O:U}{st:St}(h:Pos O st):fY st:=by have:=h.lo;have:=h.hi;unfold fY;omega
structure Ns(O:U)(P:St->Prop):Prop where
 Zu:Clo O P
 rw:∀st r,Pos O st->Kp st->st.ch=46->(aa O st).ch=46->r.ao=false->r.p=st.p->r.bD=st.bD->r.ch=st.ch->(∃l,r.ab=st.ab++l)->
  ((r.aC=st.aC∧r.aL=st.aL)∨((aa O (aa O st)).ch=10∧r.aC=st.aC+1∧r.aL=0))->P st->P (aa O r)
structure Fw(O:U)(st aO:St):Prop where
 mode:aO.mode=st.mode
 ab:∃l,aO.ab=st.ab++l
 left:left O aO<=left O st
 pos:Pos O st->Pos O aO∧st.p-st.bD<=aO.p-aO.bD
 kp:Fk O st aO
 lc:aO.line=st.line∧aO.aM=st.aM
 ind:Pos O st->O.size<=2048->Kp st->∀P,Ns O P->P st->P aO
theorem On.fw{O:U}{a b:St}(h:On O a b):Fw O a b:=⟨by rw[h.bm],h.ab,h.left,h.pos,h.kp,by rw[h.bm];exact⟨rfl,rfl⟩,fun hp hs hk P hP h0=>h.ind hp hs hk P hP.Zu h0⟩
theorem Fw.refl(O:U)(st:St):Fw O st st:=(On.refl O st).fw
theorem Fw.trans{O:U}{a b c:St}(h:Fw O a b)(h':Fw O b c):Fw O a c:=by
 obtain⟨l,hl⟩:=h.ab
 obtain⟨l',VL⟩:=h'.ab
 exact⟨h'.mode.trans h.mode,⟨l++l',by rw[VL,hl,List.append_assoc]⟩,Nat.le_trans h'.left h.left,fun hp=>⟨(h'.pos (h.pos hp).1).1,Nat.le_trans (h.pos hp).2 (h'.pos (h.pos hp).1).2⟩,
  fun hp hs hk=>⟨(h'.kp (h.pos hp).1 hs (h.kp hp hs hk).1).1,(h.kp hp hs hk).2.trans (h'.kp (h.pos hp).1 hs (h.kp hp hs hk).1).2⟩,⟨h'.lc.1.trans h.lc.1,h'.lc.2.trans h.lc.2⟩,fun hp hs hk P hP h0=>h'.ind (h.pos hp).1 hs (h.kp hp hs hk).1 P hP (h.ind hp hs hk P hP h0)⟩
theorem kA{O:U}{a b:St}(ef:b.ao=a.ao)(e0:b.mode=a.mode)(e1:b.ab=a.ab)(e2:left O b=left O a)(e3:b.p=a.p)(e4:b.bD=a.bD)(e5:b.ch=a.ch)(e6:b.aC=a.aC)(e7:b.aL=a.aL)(e8:b.line=a.line)(e9:b.aM=a.aM):Fw O a b:=
 ⟨e0,⟨[],by rw[e1];simp⟩,Nat.le_of_eq e2,fun h=>⟨h.same e3 e4 e5,by rw[e3,e4];exact Nat.le_refl _⟩,CK e6 e7 e3 e4,⟨e8,e9⟩,fun _ _ _ P hP h0=>hP.Zu.same _ _ ⟨ef,e3,e4,e5,e6,e7,[],by rw[e1];simp⟩ h0⟩
theorem C3(O:U)(st:St):Fw O st (stop st):=kA rfl rfl rfl rfl rfl rfl rfl rfl rfl rfl rfl
theorem A6(O:U)(st:St):Fw O st (fZ O st):=(C3 O st).trans (dq _ _ _).fw
theorem A7(O:U)(st:St):Fw O st (gK O st):=(C3 O st).trans (dK _ _).fw
theorem E5{O s:U}{φ ψ:St->St}(C1:∀st,Fw O st (φ st))(Wd:∀st,Fw O st (ψ st))(st:St):Fw O st (ku O s φ ψ st):=by
 unfold ku
 split
 ·exact(kz _ _ _).fw.trans (Wd _)
 ·exact(kz _ _ _).fw.trans (C1 _)
theorem yF(O:U)(st:St):Fw O st (bp O st):=by
 unfold bp
 split
 ·exact(j7 _ _).fw
 ·split
  ·exact A6 _ _
  ·exact E5 (A6 O) (fun st=>(j7 O st).fw) st
theorem lu(O:U)(st:St):Fw O st (aJ O st):=by
 unfold aJ
 split
 ·exact(j8 _ _).fw
 ·split
  ·exact A7 _ _
  ·exact E5 (A7 O) (fun st=>(j8 O st).fw) st
theorem bf{α:Type}{b:Bool}{t e:af α}{Q:α->Prop}(h1:b=true->t.aD Q)(h2:e.aD Q):(af.aj b t e).aD Q:=⟨h1,fun _=>h2⟩
theorem ar{α:Type}{b:Bool}{t e:af α}{Q:α->Prop}(h1:t.aD Q)(h2:e.aD Q):(af.aj b t e).aD Q:=⟨fun _=>h1,fun _=>h2⟩
theorem E6(O:U)(nl:Bool)(st:St):(jM O nl st).cg:=by
 simp only[jM,te,DT,E4,fi,af.cg,and_self]
def aI(nl:Bool)(x:Int):Bool:=x==32||x==9||(x==10&& !nl)||x==13
def gC(bl:Bool)(st:St):St:=start {st with line:=u64 (1+st.aC),aM:=u64 (1+st.aL),blank:=bl}
def A8{α:Type}(O:U)(D:St->α)(K:St->af α)(st:St):af α:=
 .aj (cj st.ch) (.aY (fY (aa O st)∧st.b.isSome=true) (.ae (D (dV O (aa O st)))))
  (.aj (decide (st.ch>=128)) (.aY (-2147483648<=st.ch∧st.ch<=2147483647)
    (.aj (cA true st).1 (.aY (fY (aa O (cA true st).2)∧(cA true st).2.b.isSome=true) (.ae (D (dV O (aa O (cA true st).2)))))
      (K (cA true st).2))) (K st))
theorem aeL(A:Ad)(nl:Bool)(l c:Int)(st:St):(az (Nr A) (ck 4 (ah 4 (gr 0))) (wx A nl l c st)).bind (fun xe=> .ae (xe.1,cU (vR xe.1) xe.2))=
 .aj (decide (u64 (1+st.aC)>l))
  (A8 A.O (fun s=>(Ex.ret,(⟨⟨s,[]⟩,[]⟩:E (SY A)))) (fun s=> .ae (.normal,wx A nl l c s)) (gC true st))
  (A8 A.O (fun s=>(Ex.ret,(⟨⟨s,[]⟩,[]⟩:E (SY A)))) (fun s=> .ae (.normal,wx A nl l c s)) (gC (c==1) st)):=by kernel_rfl
theorem Rc(A:Ad)(nl:Bool)(l c:Int)(st:St)(bx:List Value):(az (Nr A) C2 ⟨⟨st,bx⟩,[(0,.st 0),(2,.val (.bool nl)),(3,.val (.int .u64 l)),(4,.val (.int .u64 c))]⟩).bind (fun xe=> .ae (xe.1,cU [0,2,3,4] xe.2))=
 (.aj (st.ch==32)
   (.ae (.normal,⟨⟨aa A.O st,bx⟩,[(0,.st 0),(2,.val (.bool nl)),(3,.val (.int .u64 l)),(4,.val (.int .u64 c))]⟩))
   (.aj (st.ch==9)
     (.ae (.normal,⟨⟨aa A.O st,bx⟩,[(0,.st 0),(2,.val (.bool nl)),(3,.val (.int .u64 l)),(4,.val (.int .u64 c))]⟩))
     (.aj (st.ch==10)
       (.aj (!nl)
         (.ae (.normal,⟨⟨aa A.O st,bx⟩,[(0,.st 0),(2,.val (.bool nl)),(3,.val (.int .u64 l)),(4,.val (.int .u64 c))]⟩))
         (.aj (st.ch==13)
           (.ae (.normal,⟨⟨aa A.O st,bx⟩,[(0,.st 0),(2,.val (.bool nl)),(3,.val (.int .u64 l)),(4,.val (.int .u64 c))]⟩))
           (.ae (.exit 0,⟨⟨st,bx⟩,[(0,.st 0),(2,.val (.bool nl)),(3,.val (.int .u64 l)),(4,.val (.int .u64 c))]⟩))))
       (.aj (st.ch==13)
         (.ae (.normal,⟨⟨aa A.O st,bx⟩,[(0,.st 0),(2,.val (.bool nl)),(3,.val (.int .u64 l)),(4,.val (.int .u64 c))]⟩))
         (.ae (.exit 0,⟨⟨st,bx⟩,[(0,.st 0),(2,.val (.bool nl)),(3,.val (.int .u64 l)),(4,.val (.int .u64 c))]⟩)))))):=by kernel_rfl
theorem Re(A:Ad)(hA:A.Ok)(nl:Bool):At (SY A) A5 (.block 0 (.loop C2)) (fun p:St×List Value×Int×Int=>Es A p.1 p.2.1 [(0,.st 0),(2,.val (.bool nl)),(3,.val (.int .u64 p.2.2.1)),(4,.val (.int .u64 p.2.2.2))])
 (fun p=> .ae (.normal,Es A (skip A.O (aI nl) p.1) p.2.1 [(0,.st 0),(2,.val (.bool nl)),(3,.val (.int .u64 p.2.2.1)),(4,.val (.int .u64 p.2.2.2))])):=by
 refine ya hA (aI nl) (by cases nl<;>rfl) (fun p:Int×Int=>[(0,.st 0),(2,.val (.bool nl)),(3,.val (.int .u64 p.1)),(4,.val (.int .u64 p.2))]) ?_
 refine At.qB (db A hA) (bw A hA (lq A hA) A5 [] 0) (fun _=>[0,2,3,4]) (fun p Q hs=>bB (Rc A nl p.2.2.1 p.2.2.2 p.1 p.2.1) ?_)
 have key:∀b:Bool,aI nl p.1.ch=b->(if b=true then af.ae (Ex.normal,Es A (aa A.O p.1) p.2.1 [(0,.st 0),(2,.val (.bool nl)),(3,.val (.int .u64 p.2.2.1)),(4,.val (.int .u64 p.2.2.2))])else .ae (.exit 0,Es A p.1 p.2.1 [(0,.st 0),(2,.val (.bool nl)),(3,.val (.int .u64 p.2.2.1)),(4,.val (.int .u64 p.2.2.2))])).aD Q:=fun b hb=>by rw[←hb];exact hs
 have y:aI nl p.1.ch=true->Q (Ex.normal,Es A (aa A.O p.1) p.2.1 [(0,.st 0),(2,.val (.bool nl)),(3,.val (.int .u64 p.2.2.1)),(4,.val (.int .u64 p.2.2.2))]):=key true
 have n:aI nl p.1.ch=false->Q (Ex.exit 0,Es A p.1 p.2.1 [(0,.st 0),(2,.val (.bool nl)),(3,.val (.int .u64 p.2.2.1)),(4,.val (.int .u64 p.2.2.2))]):=key false
 clear key hs
 refine⟨fun h1=>y ?_,fun h1=>⟨fun h2=>y ?_,fun h2=>⟨fun h3=>⟨fun h4=>y ?_,fun h4=>⟨fun h5=>y ?_,fun h5=>n ?_⟩⟩,fun h3=>⟨fun h5=>y ?_,fun h5=>n ?_⟩⟩⟩⟩
 all_goals (unfold aI;simp_all)
theorem KE{O:U}{a b:St}(t:Int)(h:Fw O a b):Fw O a (tk t b):=h.trans (kA rfl rfl rfl rfl rfl rfl rfl rfl rfl rfl rfl)
theorem abd{O:U}{a b:St}(o p:Int)(h:Fw O a b):Fw O a (Hc o p b):=h.trans (kA rfl rfl rfl rfl rfl rfl rfl rfl rfl rfl rfl)
theorem Rf{O:U}{a b:St}(w:U)(h:Fw O a b):Fw O a (lit w b):=h.trans (kA rfl rfl rfl rfl rfl rfl rfl rfl rfl rfl rfl)
theorem Wu{O:U}{a b:St}(h:Fw O a b):Fw O a (lO b):=h.trans (kA rfl rfl rfl rfl rfl rfl rfl rfl rfl rfl rfl)
theorem Wv{O:U}{a b:St}(h:Fw O a b):Fw O a (aa O b):=h.trans (aR _ _).fw
theorem pT{O:U}{a b:St}(k:Int)(ok:Bool)(h:Fw O a b):Fw O a (bJ O k ok b):=h.trans (kA rfl rfl rfl rfl rfl rfl rfl rfl rfl rfl rfl)
theorem E7{O:U}{st:St}(h:fY st):Fw O st (dV O st):=by
 have e:∀s,Fw O s (cW O s):=fun s=>by
  unfold cW
  split<;>exact kA rfl rfl rfl rfl rfl rfl rfl rfl rfl rfl rfl
 unfold dV
 split
 ·exact((dq O qp st).trans (wU O _ (pS h)).1).fw.trans (e _)
 ·exact(dq O qp st).fw.trans (e _)
theorem Rh{O:U}{st:St}{s:bh}(h:gf O st s):(EY O s).aD (fun s=>EZ O s∧Fw O st s.st):=by
 have hl:(bJ O s.kind s.ok s.st).lit.size=off s.st:=h.uF.fG
 have hs:=h.uF.sz;have hn:=h.uF.n
 have ho:off s.st<=2048:=by unfold off;omega
 have l1:EZ O {s with st:=bJ O s.kind s.ok s.st}:=by unfold EZ;show(bJ O s.kind s.ok s.st).lit.size<=2048;omega
 have f1:Fw O st (bJ O s.kind s.ok s.st):=pT _ _ h.on.fw
 have hi:=h.inv
 refine⟨h.uF.b,fun _=>⟨fun h1=>⟨fun _=>⟨⟨of_decide_eq_true h1,?_⟩,h.base,?_,f1.trans (iu _ _ _ _).fw⟩,fun _=>⟨l1,f1⟩⟩,fun _=>⟨l1,f1⟩⟩,fun _=>⟨l1,f1⟩⟩
 ·have h2:s.inv>=0:=of_decide_eq_true h1
  rw[hl];omega
 ·show(bJ O s.kind s.ok s.st).lit.size<=2048
  omega
theorem Ri{O:U}{st:St}{s:bh}(h:EZ O s∧Fw O st s.st):(Ha s).aD (fun s=>Fw O st s.st):=by
 have h1:s.st.lit.size<=2048:=h.1
 exact⟨fun _=>⟨fun _=>⟨by omega,fun _=>h.2.trans (iu _ _ _ _).fw,fun _=>h.2⟩,fun _=>h.2⟩,fun _=>h.2⟩
theorem A9{O:U}{seen:Bool}{st:St}(h:gV O st)(hc:st.ch≠10):Fw O st (fp O seen st):=by
 have tail:∀s,gf O st s->(dd O True af.ae s).aD (fun s=>Fw O st s.st):=fun s hs=>by
  simp only[dd,ax]
  exact an (sZ hs) fun a h=>an (s_ h) fun a h=>an (tb trivial h) fun a h=>an (pf h) fun a h=>an (Rh h) fun a h=>an (Ri h) fun a h=>h
 have key:(dr O True af.ae seen st).aD (fun s=>Fw O st s.st):=by
  unfold dr
  split
  ·exact tail _ ⟨.inr (.inr (.inl rfl)),h,.inl (by show(-1:Int)<0;decide),On.refl _ _⟩
  ·rw[ax];exact an (pe h hc) fun a ha=>tail a ha
 exact((tc h hc).1 key).trans (kA rfl rfl rfl rfl rfl rfl rfl rfl rfl rfl rfl)
structure Fw0(O:U)(st aO:St):Prop where
 mode:aO.mode=st.mode
 ab:∃l,aO.ab=st.ab++l
 left:left O aO<=left O st
 pos:Pos O st->Pos O aO∧st.p-st.bD<=aO.p-aO.bD
theorem A_{O:U}{st:St}(hO:gV O st)(hb:st.b=some (st.p-st.bD))(hP:Pos O st)(hc:st.ch=46)(s:St)(hs:Fw O st s)(hsb:s.b=st.b):Fw0 O st (cd O s):=by
 have h1:st.bD=1:=by
  have:=hP.QE (by rw[hc];decide)
  have:=hP.pos (by rw[hc];decide)
  omega
 have e:s.b.getD 0=st.p-1:=by rw[hsb,hb,h1];rfl
 have hw:=hP.w;have hn:=hP.n
 have bz:st.p-1<O.size:=by omega
 have hp:({s with p:=s.b.getD 0,aL:=u64 (s.aL-u64 ((s.p:Int)-(s.b.getD 0:Nat)))}:St).p<=O.size:=by show s.b.getD 0<=_;omega
 have np:=dJ hp
 have on:=aR O {s with p:=s.b.getD 0,aL:=u64 (s.aL-u64 ((s.p:Int)-(s.b.getD 0:Nat)))}
 have ro:=kF O (aB {s with p:=s.b.getD 0,aL:=u64 (s.aL-u64 ((s.p:Int)-(s.b.getD 0:Nat)))}) O.size s.ao (st.p-1) (aS {s with p:=s.b.getD 0,aL:=u64 (s.aL-u64 ((s.p:Int)-(s.b.getD 0:Nat)))}) s.ab bz
 have ep:(cd O s).p=(ak O (aB {s with p:=s.b.getD 0,aL:=u64 (s.aL-u64 ((s.p:Int)-(s.b.getD 0:Nat)))}) (O.size+1) s.ao (s.b.getD 0) (aS {s with p:=s.b.getD 0,aL:=u64 (s.aL-u64 ((s.p:Int)-(s.b.getD 0:Nat)))}) s.ab).p:=rfl
 rw[e]at ep
 rw[←e,e,←ep]at ro
 obtain⟨l,hl⟩:=hs.ab
 obtain⟨l',VL⟩:=on.ab
 refine⟨?_,⟨l++l',?_⟩,?_,fun _=>⟨np.1,?_⟩⟩
 ·show(aa O _).mode=_
  rw[on.bm];exact hs.mode
 ·show(aa O _).ab=_
  rw[VL,←List.append_assoc,←hl]
 ·unfold left
  rw[if_neg (show¬st.ch= -1 by rw[hc];decide)]
  split<;>omega
 ·have h2:=np.2
  have h3:({s with p:=s.b.getD 0,aL:=u64 (s.aL-u64 ((s.p:Int)-(s.b.getD 0:Nat)))}:St).p=st.p-1:=e
  rw[h3]at h2
  rw[h1]
  exact h2
theorem pU{O:U}{st:St}(hb:st.b=some (st.p-st.bD))(hP:Pos O st)(hc:st.ch=46)(s:St)(hsb:s.b=st.b):
 (cd O s).p=st.p∧(cd O s).bD=1∧(cd O s).ch=46∧(cd O s).aC=aB s∧(cd O s).aL=aS {s with aL:=u64 (s.aL-u64 ((s.p:Int)-(st.p-1:Nat)))}∧(cd O s).line=s.line∧(cd O s).aM=s.aM:=by
 have h1:st.bD=1:=by
  have:=hP.QE (by rw[hc];decide)
  have:=hP.pos (by rw[hc];decide)
  omega
 have e:s.b.getD 0=st.p-1:=by rw[hsb,hb,h1];rfl
 have hw:=hP.w;have hn:=hP.n
 have bz:st.p-1<O.size:=by omega
 have vH:(O.get! (st.p-1)).toNat=46:=by
  have:=hP.byte (by rw[hc];decide) (by rw[hc];decide)
  rw[hc]at this;omega
 have hr:ak O (aB s) (O.size+1) s.ao (st.p-1) (aS {s with aL:=u64 (s.aL-u64 ((s.p:Int)-(st.p-1:Nat)))}) s.ab=⟨st.p,aS {s with aL:=u64 (s.aL-u64 ((s.p:Int)-(st.p-1:Nat)))},46,1,s.ab⟩:=by
  rw[ak,if_pos bz,if_pos (by rw[vH];decide),if_neg (by rw[vH];exact fun h=>absurd h.1 (by decide)),vH]
  rw[show st.p-1+1=st.p by omega];rfl
 have key:cd O s=St.read {s with p:=st.p-1,aL:=u64 (s.aL-u64 ((s.p:Int)-(st.p-1:Nat)))} (aB s) (ak O (aB s) (O.size+1) s.ao (st.p-1) (aS {s with aL:=u64 (s.aL-u64 ((s.p:Int)-(st.p-1:Nat)))}) s.ab):=by
  unfold cd
  rw[e]
  rfl
 rw[hr]at key
 rw[key]
 exact⟨rfl,rfl,rfl,rfl,rfl,rfl,rfl⟩
theorem Ba{O:U}{st:St}(hO:gV O st)(hb:st.b=some (st.p-st.bD))(hP:Pos O st)(hc:st.ch=46)(h2:(aa O st).ch=46)(hs:O.size<=2048)(hk:Kp st):
 ((cd O (aa O (aa O st))).aC=st.aC∧(cd O (aa O (aa O st))).aL=st.aL)∨((aa O (aa O st)).ch=10∧(cd O (aa O (aa O st))).aC=st.aC+1∧(cd O (aa O (aa O st))).aL=0):=by
 have o1:=(hO.next (by rw[hc];decide)).1
 have o2:=(o1.next (by rw[h2];decide)).1
 have k1:=kH hs hP.n (fun e=>by rw[hc]at e;cases e) hk
 have p1:=(dJ (O:=O) hP.n).1
 have k2:=kH hs p1.n (fun e=>by rw[h2]at e;cases e) k1.1
 have p2:=(dJ (O:=O) p1.n).1
 have h1:st.bD=1:=by
  have:=hP.QE (by rw[hc];decide)
  have:=hP.pos (by rw[hc];decide)
  omega
 have l1:(aa O st).aC=st.aC:=by show aB st=_;unfold aB;rw[if_neg (by rw[hc];decide)]
 have l2:(aa O (aa O st)).aC=st.aC:=by show aB (aa O st)=_;unfold aB;rw[if_neg (by rw[h2];decide)];exact l1
 obtain⟨r1,r2,r3,r4,r5,_,_⟩:=pU hb hP hc (aa O (aa O st)) rfl
 have oc0:=hO.aM
 have oc2:=o2.aM
 have c2:(aa O (aa O st)).aM=st.aM:=rfl
 have b2:(aa O (aa O st)).b=st.b:=rfl
 have of0:off st=0:=by unfold off;rw[hb];exact Nat.sub_self _
 have of2:off (aa O (aa O st))=(aa O (aa O st)).p-(aa O (aa O st)).bD-(st.p-1):=by unfold off;rw[b2,hb,h1];rfl
 rw[c2,of2]at oc2
 rw[of0]at oc0
 have ge2:st.p-1<=(aa O (aa O st)).p-(aa O (aa O st)).bD:=by
  have:=o2.le;rw[b2,hb,h1]at this;exact this
 have n2:=p2.n;have w2:=p2.w
 obtain⟨⟨q1,q2,q3,q4⟩,lx⟩:=k2
 have k0:=hk.l0;have k0':=hk.c0;have k3:=hk.c;have k4:=hk.l
 have hn:=hP.n
 by_cases Rj:(aa O (aa O st)).ch=10
 ·refine .inr ⟨Rj,?_,by rw[r5];unfold aS;rw[if_pos Rj]⟩
  rw[r4];unfold aB;rw[if_pos Rj,l2];exact b_ (by omega) (by omega)
 ·refine .inl ⟨by rw[r4];unfold aB;rw[if_neg Rj,l2],?_⟩
  rw[r5];unfold aS;rw[if_neg Rj]
  simp only[yy]at oc0 oc2⊢
  omega
theorem Nt{O:U}{st:St}(hO:gV O st)(hb:st.b=some (st.p-st.bD))(hP:Pos O st)(hc:st.ch=46)(h2:(aa O st).ch=46):Fk O st (aa O (cd O (aa O (aa O st)))):=by
 intro _ hs hk
 have h1:st.bD=1:=by
  have:=hP.QE (by rw[hc];decide)
  have:=hP.pos (by rw[hc];decide)
  omega
 have lc:=Ba hO hb hP hc h2 hs hk
 obtain⟨r1,r2,r3,r4,r5,_,_⟩:=pU hb hP hc (aa O (aa O st)) rfl
 have k0:=hk.l0;have k0':=hk.c0;have k3:=hk.c;have k4:=hk.l
 have hn:=hP.n;have hw:=hP.w
 generalize hg:aa O (aa O st)=s at*
 rcases lc with⟨c4,c5⟩|⟨Rj,c4,c5⟩
 rotate_left
 ·generalize cd O s=r at*
  have el:(aa O r).aC=aB r:=rfl
  have ll:aB r=r.aC:=by unfold aB;rw[if_neg (by rw[r3];decide)]
  have cc:aS r=1:=by unfold aS;rw[if_neg (by rw[r3];decide),c5,r2];rfl
  have hr:=mV O (aB r) hs (O.size+1) r.ao r.p (aS r) r.ab (by omega) (by rw[cc];decide) (by rw[cc,r1];omega)
  have hpp:=(jy O (aB r) (O.size+1) r.ao r.p (aS r) r.ab (by omega)).1
  have ec:(aa O r).aL=(ak O (aB r) (O.size+1) r.ao r.p (aS r) r.ab).aM:=rfl
  have e1:(aa O r).p=(ak O (aB r) (O.size+1) r.ao r.p (aS r) r.ab).p:=rfl
  have e2:(aa O r).bD=(ak O (aB r) (O.size+1) r.ao r.p (aS r) r.ab).bD:=rfl
  rw[←ec,←e1,←e2]at hr
  rw[←e1,←e2]at hpp
  rw[cc]at hr
  rw[ll,c4]at el
  exact⟨⟨by omega,by omega,hr.2,by omega⟩,.inl (by omega)⟩
 ·have kr:Kp (cd O s):=hk.same c4 c5 r1 (by rw[r2,h1])
  have:=kH (O:=O) hs (by rw[r1];exact hn) (fun e=>by rw[r3]at e;cases e) kr
  exact⟨this.1,Lx.trans (.inr ⟨c4.symm,by rw[c5];exact Int.le_refl _⟩) this.2⟩
theorem E8{O:U}{st:St}(hO:gV O st)(hb:st.b=some (st.p-st.bD))(hP:Pos O st)(hc:st.ch=46)(h2:(aa O st).ch=46):Fw O st (aa O (cd O (aa O (aa O st)))):=by
 have h0:=A_ hO hb hP hc (aa O (aa O st)) ((aR _ _).trans (aR _ _)).fw rfl
 have h1:=aR O (cd O (aa O (aa O st)))
 obtain⟨l,hl⟩:=h0.ab
 obtain⟨l',VL⟩:=h1.ab
 refine⟨(by rw[h1.bm];exact h0.mode),⟨l++l',by rw[VL,hl,List.append_assoc]⟩,Nat.le_trans h1.left h0.left,fun hp=>⟨(h1.pos (h0.pos hp).1).1,Nat.le_trans (h0.pos hp).2 (h1.pos (h0.pos hp).1).2⟩,Nt hO hb hP hc h2,⟨rfl,rfl⟩,fun hp hs hk P hR IW=> ?_⟩
 obtain⟨r1,r2,r3,_⟩:=pU hb hP hc (aa O (aa O st)) rfl
 have w1:st.bD=1:=by
  have:=hP.QE (by rw[hc];decide)
  have:=hP.pos (by rw[hc];decide)
  omega
 exact hR.rw st _ hP hk hc h2 rfl r1 (by rw[r2,w1]) (by rw[r3,hc]) h0.ab (Ba hO hb hP hc h2 hs hk) IW
theorem vT{x:Int}(h:aE x=true):¬x= -1:=fun e=>by rw[e]at h;exact absurd h (by decide)
theorem E9{O:U}{st:St}{inv:Int}(h:aE st.ch=true):left O (bY O 10 st inv).1<left O st:=by
 unfold bY
 rw[if_pos (by decide)]
 refine cp (body:=yl O (IntKind.i32.wrap (IntKind.i64.wrap (48+10)))) (μ:=mY O) (fun a=>a.1=st∨left O a.1<left O st) (P:=fun q:St×Int×Int=>left O q.1<left O st) (fun a ha=> ?_) (st,0,inv) (.inl rfl)
 have go:¬a.1.ch= -1->left O (aa O a.1)<left O a.1∧left O (aa O a.1)<left O st:=fun dH=>by
  have:=aQ O a.1 dH
  rcases ha with ha|ha
  ·rw[ha]at this⊢;exact⟨this,this⟩
  ·exact⟨this,by omega⟩
 have d1:¬a.1.ch= -1->(vN O (IntKind.i32.wrap (IntKind.i64.wrap (48+10))) a).aD (fun s=>match s with
  | .go a'=>(a'.1=st∨left O a'.1<left O st)∧mY O a'<mY O a
  | .out b=>left O b.1<left O st):=fun dH=>by
  have g:=go dH
  unfold vN
  repeat' first
   |exact⟨.inr g.2,g.1⟩
   |(refine⟨fun _=> ?_,fun _=> ?_⟩)
 refine⟨fun h1=>d1 (vT h1),fun h1=>⟨fun h2=>d1 (fun e=>by rw[e]at h2;exact absurd h2 (by decide)),fun _=> ?_⟩⟩
 rcases ha with ha|ha
 ·rw[ha,h]at h1;cases h1
 ·exact ha
theorem jN{α:Type}{t:af α}{P R:α->Prop}(h:t.aD P)(hr:t.all R):t.aD (fun a=>P a∧R a):=by
 induction t with
 |ae a=>exact⟨h,hr⟩
 |aj b t e iQ jH=>exact⟨fun hb=>iQ (h.1 hb) (hr.1 hb),fun hb=>jH (h.2 hb) (hr.2 hb)⟩
 |aY p k ih=>exact⟨h.1,ih h.2 hr⟩
 |any t e iQ jH=>exact⟨iQ h.1 hr.1,jH h.2 hr.2⟩
 |fail=>exact h.elim
theorem tf{O:U}{base pre d0:Int}{r:St×Int×Int}{L:Nat}(h:left O r.1<L):(G_ O base pre d0 r).all (fun a=>left O a.st<L):=by
 have e:∀m,left O (aa O (error m r.1))<L:=fun m=>Nat.lt_of_le_of_lt (gB O (error m r.1)) h
 exact⟨fun _=>⟨fun _=>e _,fun _=>⟨fun _=>e _,fun _=>Nat.lt_of_le_of_lt (gB O r.1) h⟩⟩,fun _=>h⟩
theorem Rl{O:U}{st:St}(h:aE st.ch=true):(uE O st).all (fun a=>left O a.st<left O st):=by
 have h1:=aQ O st (vT h)
 have h2:left O (aa O (aa O st))<left O st:=Nat.lt_of_le_of_lt (gB O _) h1
 have d:∀(b:Int) (s:St),left O s<left O st->left O (bY O b s (-1)).1<left O st:=fun b s hs=>Nat.lt_of_le_of_lt (uG O b s (-1)).left hs
 exact⟨fun _=>⟨fun _=>tf (d _ _ h2),fun _=>⟨fun _=>tf (d _ _ h2),fun _=>⟨fun _=>tf (d _ _ h2),fun _=>tf (d _ _ h1)⟩⟩⟩,fun _=>tf (E9 h)⟩
theorem E_{O:U}{st:St}(h:gV O st)(hc:aE st.ch=true):left O (fp O false st)<left O st:=by
 have aeM:st.ch≠10:=fun e=>by rw[e]at hc;exact absurd hc (by decide)
 have tail:∀s,gf O st s->(dd O True af.ae s).aD (fun s'=>Fw O s.st s'.st):=fun s hs=>by
  have jt:gf O s.st s:=⟨hs.base,hs.uF,hs.inv,On.refl _ _⟩
  simp only[dd,ax]
  exact an (sZ jt) fun a h=>an (s_ h) fun a h=>an (tb trivial h) fun a h=>an (pf h) fun a h=>an (Rh h) fun a h=>an (Ri h) fun a h=>h
 have key:(dr O True af.ae false st).aD (fun s=>left O s.st<left O st):=by
  unfold dr
  rw[if_neg (by decide),ax]
  exact an (jN (pe h aeM) (Rl hc)) fun a ha=>an (tail a ha.1) fun s hs=>Nat.lt_of_le_of_lt hs.left ha.2
 exact(tc h aeM).1 key
def Gd(O:U)(st s:St):Prop:=Fw O st s∧left O s<left O st
def UC(O:U)(nl:Bool)(st:St):Fin->Prop
 | .done s _=>Fw O st s∧(left O s<left O st∨(s.au=st.au∧(nl=false->s.tok=1)))
 | .fP s=>Gd O st s
 | .zN s=>Gd O st s
theorem jO{O:U}{nl:Bool}{st s:St}{bx:List Value}(h:Gd O st s):UC O nl st (.done s bx):=⟨h.1,.inl h.2⟩
theorem Zv{O:U}{st s:St}(t:Int)(h:Gd O st s):Gd O st (tk t s):=⟨KE t h.1,h.2⟩
theorem rh{O:U}{st s:St}(o p:Int)(h:Gd O st s):Gd O st (Hc o p s):=⟨abd o p h.1,h.2⟩
theorem IX{O:U}{st s:St}(w:U)(h:Gd O st s):Gd O st (lit w s):=⟨Rf w h.1,h.2⟩
theorem tg{O:U}{st s:St}(h:Gd O st s):Gd O st (lO s):=⟨Wu h.1,h.2⟩
theorem pV{O:U}{st s:St}(h:Gd O st s):Gd O st (aa O s):=⟨Wv h.1,Nat.lt_of_le_of_lt (gB O s) h.2⟩
theorem th{O:U}{st s s':St}(h:Gd O st s)(h':Fw O s s'):Gd O st s':=⟨h.1.trans h',Nat.lt_of_le_of_lt h'.left h.2⟩
theorem KF{O:U}{nl:Bool}{st:St}(hO:gV O st)(hP:Pos O st)(Ww:st.b=some (st.p-st.bD)):(jM O nl st).aD (UC O nl st):=by
 have hb:=hO.b
 have eqv:∀{k:Int},(st.ch==k)=true->st.ch=k:=fun h=>by simpa using h
 refine⟨fun h0=>⟨fun hn=>⟨Rf _ (Fw.refl _ _),.inr ⟨rfl,fun h=>by rw[hn]at h;cases h⟩⟩,fun hn=>⟨KE _ (Fw.refl _ _),.inr ⟨rfl,fun _=>rfl⟩⟩⟩,fun h0=> ?_⟩
 have dH:¬st.ch= -1:=fun e=>by rw[e]at h0;cases h0
 have g1:Gd O st (aa O st):=⟨(aR _ _).fw,aQ O st dH⟩
 have g2:=pV g1
 have g3:=pV g2
 have f1:∀{t:Int} {s:St},Gd O st s->(te t s).aD (UC O nl st):=fun h=>jO (Zv _ h)
 have f4:∀{o p:Int} {s:St},Gd O st s->(DT o p s).aD (UC O nl st):=fun h=>jO (Zv _ (rh _ _ h))
 have fA:∀{o p:Int} {s:St},Gd O st s->(E4 o p s).aD (UC O nl st):=fun h=>rh _ _ h
 have num:∀k:Int,aE k=true->(st.ch==k)=true->(fi O false st).aD (UC O nl st):=fun k hk h=>by
  have hd:aE st.ch=true:=by rw[eqv h];exact hk
  have hc:st.ch≠10:=fun e=>by rw[e]at hd;exact absurd hd (by decide)
  exact⟨⟨hO,hc⟩,jO ⟨A9 hO hc,E_ hO hd⟩⟩
 have rw1:st.ch=46->(aa O st).ch=46->Gd O st (aa O (cd O (aa O (aa O st)))):=fun hc h2=>by
  have hr:=A_ hO Ww hP hc (aa O (aa O st)) g2.1 rfl
  refine⟨E8 hO Ww hP hc h2,?_⟩
  have hl:=hr.left
  by_cases he:(cd O (aa O (aa O st))).ch= -1
  ·refine Nat.lt_of_le_of_lt (gB O _) ?_
   unfold left at hl⊢
   rw[if_pos he]at hl⊢
   rw[if_neg dH]at hl⊢
   omega
  ·exact Nat.lt_of_lt_of_le (aQ O _ he) hl
 refine ar (jO (IX _ g1)) ?_
 refine bf (num 48 (by decide)) (bf (num 49 (by decide)) (bf (num 50 (by decide)) (bf (num 51 (by decide)) (bf (num 52 (by decide)) ?_))))
 refine bf (num 53 (by decide)) (bf (num 54 (by decide)) (bf (num 55 (by decide)) (bf (num 56 (by decide)) (bf (num 57 (by decide)) ?_))))
 refine ar ⟨hb,jO (th g1 (pT _ _ (ES (sL O) (aa O st,true)).fw))⟩ (ar ⟨hb,jO (th g1 (pT _ _ (ES (wN O) (aa O st,true)).fw))⟩ (ar ⟨hb,jO (th g1 (pT _ _ (wO O (aa O st,true,0)).fw))⟩ ?_))
 refine ar (f1 g1) (ar (f1 g1) (ar (f1 g1) (ar (f1 g1) (ar (jO (IX _ g1)) (ar (f1 (tg g1)) (ar (f1 (tg g1)) (ar (f1 (tg g1)) ?_)))))))
 refine ar (ar (f1 g2) (f1 g1)) ?_
 refine bf (fun h=>bf (fun h3=> ?_) (bf (fun h2=>ar (f1 g3) ⟨hb,f1 (rw1 (eqv h) (by simpa using h2))⟩) (f1 g1))) ?_
 ·have o1:=(hO.next (by rw[eqv h];decide)).1
  have c1:(aa O st).ch≠10:=fun e=>by rw[e]at h3;exact absurd h3 (by decide)
  exact⟨⟨o1,c1⟩,jO (th g1 (A9 o1 c1))⟩
 refine ar (ar (fA g1) (f1 (tg (pV (rh _ _ g1))))) (ar (ar (fA g1) (f1 (tg (pV (rh _ _ g1))))) (ar (ar (f1 (pV (rh _ _ g1))) (f1 (rh _ _ g1))) ?_))
 refine ar (ar ⟨hb,th g2 (yF _ _)⟩ (ar ⟨hb,ar (ar (jO (IX _ (th g2 (lu _ _)))) (th g2 (lu _ _))) (th g2 (lu _ _))⟩ (fA g1))) ?_
 refine ar (fA g1) (ar (ar (f4 g2) (ar (th (pV (rh 20 5 g1)) (kA rfl rfl rfl rfl rfl rfl rfl rfl rfl rfl rfl)) (fA g1))) (ar (ar (f4 g2) (fA g1)) (ar (fA g1) ?_)))
 refine ar (ar (f4 g2) (ar (fA g2) (ar (f1 g2) (f4 g1)))) (ar (ar (f4 g2) (ar (fA g2) (f4 g1))) (ar (ar (f4 g2) (f1 g1)) (ar (ar (f4 g2) (f4 g1)) (ar (f4 g1) ?_))))
 exact⟨((fN _ _ _).trans (aR _ _)).fw,aQ O (error fq st) dH⟩
theorem On.nl{O:U}{a b:St}(h:On O a b):b.au=a.au:=by rw[h.bm]
theorem Fa{O s:U}{φ ψ:St->St}(C1:∀st,(φ st).au=st.au)(Wd:∀st,(ψ st).au=st.au)(st:St):(ku O s φ ψ st).au=st.au:=by
 unfold ku
 split
 ·rw[Wd];exact(kz _ _ _).nl
 ·rw[C1];exact(kz _ _ _).nl
theorem Bb(O:U)(st:St):(fZ O st).au=st.au:=(dq O cm (stop st)).nl
theorem Bc(O:U)(st:St):(gK O st).au=st.au:=(dK O (stop st)).nl
theorem yG(O:U)(st:St):(bp O st).au=st.au:=by
 unfold bp
 split
 ·exact(j7 _ _).nl
 ·split
  ·exact Bb _ _
  ·exact Fa (Bb O) (fun st=>(j7 O st).nl) st
theorem yH(O:U)(st:St):(aJ O st).au=st.au:=by
 unfold aJ
 split
 ·exact(j8 _ _).nl
 ·split
  ·exact Bc _ _
  ·exact Fa (Bc O) (fun st=>(j8 O st).nl) st
def Rm(st:St):Fin->Prop
 | .fP s=>s.au=st.au
 |_=>True
theorem KG(O:U)(nl:Bool)(st:St):(jM O nl st).all (Rm st):=by
 have r1:Rm st (.fP (bp O (aa O (aa O st)))):=yG _ _
 have r2:Rm st (.fP (aJ O (aa O (aa O st)))):=yH _ _
 have r3:Rm st (.fP (aa O (error fq st))):=rfl
 have ta:∀{b:Bool} {t e:af Fin},t.all (Rm st)->e.all (Rm st)->(af.aj b t e).all (Rm st):=fun h1 h2=>⟨fun _=>h1,fun _=>h2⟩
 unfold jM
 refine ta (ta trivial trivial) (ta trivial (ta trivial (ta trivial (ta trivial (ta trivial (ta trivial (ta trivial (ta trivial (ta trivial (ta trivial (ta trivial ?_)))))))))))
 refine ta trivial (ta trivial (ta trivial (ta trivial (ta trivial (ta trivial (ta trivial (ta trivial (ta trivial (ta trivial (ta trivial ?_))))))))))
 refine ta (ta trivial trivial) (ta (ta trivial (ta (ta trivial trivial) trivial)) (ta (ta trivial trivial) (ta (ta trivial trivial) (ta (ta trivial trivial) ?_))))
 refine ta (ta r1 (ta (ta (ta trivial r2) r2) trivial)) ?_
 refine ta trivial (ta (ta trivial (ta trivial trivial)) (ta (ta trivial trivial) (ta trivial ?_)))
 refine ta (ta trivial (ta trivial (ta trivial trivial))) (ta (ta trivial (ta trivial trivial)) (ta (ta trivial trivial) (ta (ta trivial trivial) (ta trivial ?_))))
 exact r3
structure Aw(O:U)(st s:St):Prop where
 mode:s.mode=st.mode
 ab:∃l,s.ab=st.ab++l
 left:left O s<=left O st
 fwd:st.p-st.bD<=s.p-s.bD
 kp:O.size<=2048->Kp st->Kp s∧Lx st s
 ind:O.size<=2048->Kp st->∀P,Ns O P->P st->P s
theorem Fw.aw{O:U}{a b:St}(h:Fw O a b)(hp:Pos O a):Aw O a b:=⟨h.mode,h.ab,h.left,(h.pos hp).2,h.kp hp,h.ind hp⟩
theorem Aw.trans{O:U}{a b c:St}(h:Aw O a b)(h':Aw O b c):Aw O a c:=by
 obtain⟨l,hl⟩:=h.ab
 obtain⟨l',VL⟩:=h'.ab
 exact⟨h'.mode.trans h.mode,⟨l++l',by rw[VL,hl,List.append_assoc]⟩,Nat.le_trans h'.left h.left,Nat.le_trans h.fwd h'.fwd,fun hs hk=>⟨(h'.kp hs (h.kp hs hk).1).1,(h.kp hs hk).2.trans (h'.kp hs (h.kp hs hk).1).2⟩,fun hs hk P hP h0=>h'.ind hs (h.kp hs hk).1 P hP (h.ind hs hk P hP h0)⟩
def vU(st s:St):Prop:=Kp st->∃s0,Kp s0∧s0.p<=2048∧Lx st s0∧Lx s0 s∧s.line=u64 (1+s0.aC)∧s.aM=u64 (1+s0.aL)
def fQ(O:U)(st:St):Prop:=Pos O st∨(st.ch=32∧st.p<=O.size)
theorem ly{O:U}{nl:Bool}{st:St}(h:fQ O st):Pos O (skip O (aI nl) (stop st))∧Aw O st (skip O (aI nl) (stop st))∧(skip O (aI nl) (stop st)).au=st.au:=by
 refine⟨?_,?_,(dq O (aI nl) (stop st)).nl⟩
 all_goals
  have f1:Fw O st (skip O (aI nl) (stop st)):=(C3 O st).trans (dq _ _ _).fw
  rcases h with h|⟨h1,h2⟩
 ·exact(f1.pos h).1
 ·have hc:aI nl (stop st).ch=true:=by show aI nl st.ch=true;rw[h1];cases nl<;>rfl
  rw[jK O (aI nl) (by cases nl<;>rfl),if_pos hc]
  exact((dq O (aI nl) (aa O (stop st))).pos (dJ (O:=O) (st:=stop st) h2).1).1
 ·exact f1.aw h
 ·have hc:aI nl (stop st).ch=true:=by show aI nl st.ch=true;rw[h1];cases nl<;>rfl
  have np:=dJ (O:=O) (st:=stop st) h2
  refine⟨f1.mode,f1.ab,f1.left,?_,fun hs hk=> ?_,fun hs hk P hP h0=> ?_⟩
  rotate_left
  rotate_left
  ·rw[jK O (aI nl) (by cases nl<;>rfl),if_pos hc]
   have k1:=kH (O:=O) (st:=stop st) hs h2 (fun e=>by have e:st.ch=10:=e;rw[h1]at e;cases e) (hk.same rfl rfl rfl rfl)
   exact(dq O (aI nl) (aa O (stop st))).ind np.1 hs k1.1 P hP.Zu (hP.Zu.next (stop st) h2 (hk.same rfl rfl rfl rfl) (hP.Zu.same st _ ⟨rfl,rfl,rfl,rfl,rfl,rfl,[],by simp[stop]⟩ h0))
  rotate_left
  ·rw[jK O (aI nl) (by cases nl<;>rfl),if_pos hc]
   have k1:=kH (O:=O) (st:=stop st) hs h2 (fun e=>by have e:st.ch=10:=e;rw[h1]at e;cases e) (hk.same rfl rfl rfl rfl)
   have k2:=(dq O (aI nl) (aa O (stop st))).kp np.1 hs k1.1
   exact⟨k2.1,Lx.trans (b:=stop st) (Lx.refl st) (k1.2.trans k2.2)⟩
  rw[jK O (aI nl) (by cases nl<;>rfl),if_pos hc]
  have:=((dq O (aI nl) (aa O (stop st))).pos np.1).2
  have hp:(stop st).p=st.p:=rfl
  rw[hp]at np
  have:=np.2
  omega
def SwR(O:U)(nl:Bool)(st:St):Fin->Prop
 | .done s _=>Pos O s∧Aw O st s∧(left O s<left O st∨(s.au=st.au∧(nl=false->s.tok=1)))∧vU st s
 | .fP s=>Pos O s∧Aw O st s∧left O s<left O st∧s.au=st.au
 | .zN s=>Pos O s∧Aw O st s∧left O s<left O st∧vU st s
theorem ti{O:U}{bl:Bool}{st:St}(h:Pos O st)(hs:O.size<=2048):gV O (gC bl st) where
 b:=rfl
 le:=Nat.le_refl _
 w:=h.w
 n:=h.n
 sz:=hs
 aM:=by
  have:off (gC bl st)=0:=Nat.sub_self _
  rw[this]
  show u64 (u64 (1+st.aL)-u64 (1+st.aL))=0
  rw[Int.sub_self];rfl
 pos:=h.pos
theorem tj{O:U}{st:St}(bl:Bool)(h:Pos O st):Pos O (gC bl st):=h.same rfl rfl rfl
theorem Wx(O:U)(bl:Bool)(st:St):Aw O st (gC bl st):=⟨rfl,⟨[],by simp[gC,start]⟩,Nat.le_refl _,Nat.le_refl _,fun _ hk=>⟨hk.same rfl rfl rfl rfl,.inr ⟨rfl,Int.le_refl _⟩⟩,fun _ _ P hP h0=>hP.Zu.same st _ ⟨rfl,rfl,rfl,rfl,rfl,rfl,[],by simp[gC,start]⟩ h0⟩
theorem uH(f:Bool)(st:St):(cA f st).2.p=st.p∧(cA f st).2.bD=st.bD∧(cA f st).2.b=st.b∧(cA f st).2.aL=st.aL∧(cA f st).2.aM=st.aM:=by
 unfold cA
 split
 ·exact⟨rfl,rfl,rfl,rfl,rfl⟩
 ·split
  ·show(if f=true then _ else _:St).p=_∧(if f=true then _ else _:St).bD=_∧(if f=true then _ else _:St).b=_∧(if f=true then _ else _:St).aL=_∧(if f=true then _ else _:St).aM=_
   split<;>exact⟨rfl,rfl,rfl,rfl,rfl⟩
  ·split<;>exact⟨rfl,rfl,rfl,rfl,rfl⟩
theorem yI{O:U}{f:Bool}{st:St}(h:gV O st):gV O (cA f st).2:=by
 obtain⟨h1,h2,h3,h4,h5⟩:=uH f st
 exact(h.same h1 h2 h3 h4 h5 (pd f st)).1
def yJ(O:U)(nl:Bool)(l c:Int)(st:St):af Fin:=A8 O (fun s=>Fin.done s []) (jM O nl) (gC (decide (u64 (1+st.aC)>l)||c==1) st)
def iY(O:U)(nl:Bool)(st:St):af Fin:=yJ O nl (u64 (1+st.aC)) (u64 (1+st.aL)) (skip O (aI nl) (stop st))
theorem Wy{O:U}{nl:Bool}{st:St}(hP:Pos O st)(hO:gV O st)(hb:st.b=some (st.p-st.bD)):(A8 O (fun s=>Fin.done s []) (jM O nl) st).aD (fun f=>UC O nl st f∧Rm st f):=by
 have oI:=pb O true st
 have sI:=uH true st
 have w:∀f,UC O nl (cA true st).2 f∧Rm (cA true st).2 f->UC O nl st f∧Rm st f:=fun f h=>by
  obtain⟨h,hn⟩:=h
  have hl:=oI.left
  cases f with
  |done s bx=>exact⟨⟨oI.fw.trans h.1,h.2.imp (fun h=>Nat.lt_of_lt_of_le h hl) (fun h=>⟨h.1.trans oI.nl,h.2⟩)⟩,trivial⟩
  |fP s=>exact⟨⟨oI.fw.trans h.1,Nat.lt_of_lt_of_le h.2 hl⟩,(show s.au=_ from hn).trans oI.nl⟩
  |zN s=>exact⟨⟨oI.fw.trans h.1,Nat.lt_of_lt_of_le h.2 hl⟩,trivial⟩
 have idn:∀s:St,On O st s->¬s.ch= -1->UC O nl st (.done (dV O (aa O s)) [])∧Rm st (.done (dV O (aa O s)) []):=fun s ho dH=>by
  have hl:=ho.left
  have h1:=aQ O s dH
  have f1:=E7 (O:=O) (cq O s)
  have Vh:=f1.left
  exact⟨⟨(ho.trans (aR _ _)).fw.trans f1,.inl (by omega)⟩,trivial⟩
 refine⟨fun h1=>⟨⟨cq _ _,hO.b⟩,idn st (On.refl _ _) (fun e=>by rw[e]at h1;exact absurd h1 (by decide))⟩,fun _=>⟨fun h1=>⟨⟨by have:=hP.lo;omega,by have:=hP.hi;omega⟩,fun h2=>⟨⟨cq _ _,by rw[oI.b];exact hO.b⟩,idn _ oI (by rw[pd];exact yq h2)⟩,fun _=> ?_⟩,fun _=> ?_⟩⟩
 ·exact an (jN (KF (yI hO) (oI.pos hP).1 (by rw[sI.2.2.1,sI.1,sI.2.1];exact hb)) (KG _ _ _)) w
 ·exact jN (KF hO hP hb) (KG _ _ _)
theorem jA{O:U}{nl:Bool}{st:St}(h:fQ O st)(hs:O.size<=2048):(iY O nl st).aD (SwR O nl st):=by
 obtain⟨p1,a1,n1⟩:=ly (nl:=nl) h
 have key:∀bl:Bool,(A8 O (fun s=>Fin.done s []) (jM O nl) (gC bl (skip O (aI nl) (stop st)))).aD (SwR O nl st):=fun bl=>by
  refine an (Wy (tj bl p1) (ti p1 hs) rfl) (fun f hf=> ?_)
  obtain⟨hf,hn⟩:=hf
  have f2:=Wx O bl (skip O (aI nl) (stop st))
  have p2:=tj bl p1
  have l1:=a1.left
  have l2:=f2.left
  have a2:=a1.trans f2
  have fin:∀{s},Fw O (gC bl (skip O (aI nl) (stop st))) s->Pos O s∧Aw O st s:=fun hf=>⟨(hf.pos p2).1,a2.trans (hf.aw p2)⟩
  have tk:∀{s},Fw O (gC bl (skip O (aI nl) (stop st))) s->vU st s:=fun hf hk=>⟨gC bl (skip O (aI nl) (stop st)),(a2.kp hs hk).1,Nat.le_trans p2.n hs,(a2.kp hs hk).2,(hf.kp p2 hs (a2.kp hs hk).1).2,hf.lc.1,hf.lc.2⟩
  cases f with
  |done s bx=>exact⟨(fin hf.1).1,(fin hf.1).2,hf.2.imp (fun h=>by omega) (fun h=>⟨h.1.trans n1,h.2⟩),tk hf.1⟩
  |fP s=>exact⟨(fin hf.1).1,(fin hf.1).2,by have:=hf.2;omega,(show s.au=_ from hn).trans n1⟩
  |zN s=>exact⟨(fin hf.1).1,(fin hf.1).2,by have:=hf.2;omega,tk hf.1⟩
 exact key _
end
end Sc
end Go.Proofs.YtogkcphobhhbdaaGreatDoor
