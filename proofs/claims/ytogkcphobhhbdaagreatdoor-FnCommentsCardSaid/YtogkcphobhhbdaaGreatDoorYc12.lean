/- The scanner of the program told as plain functions, part 12: texts joined and shortened by a program (wip/tools/mini.py). -/
import Derived.Test.YtogkcphobhhbdaaGreatDoorYc11
set_option linter.unusedVariables false
set_option linter.unusedSimpArgs false
set_option maxHeartbeats 32000000
namespace Go.Proofs.YtogkcphobhhbdaaGreatDoor
open Go Go.RowKit Go.Lib
namespace Sc
open Ev
set_option maxRecDepth 100000
noncomputable section
def iO(r:Int):Bool:=isLetterU r||r==95
def ko(r:Int):Bool:=iO r||isDigitU r
theorem abV:((List.range 128).all fun n=>(cj (n:Nat)==iO (n:Nat))&&(aE (n:Nat)==isDigitU (n:Nat)))=true:=by kernel_rfl
theorem Ji{r:Int}(h0:0<=r)(h1:r<128):cj r=iO r∧aE r=isDigitU r:=by
 have:=List.all_eq_true.1 abV r.toNat (List.mem_range.2 (by omega))
 rw[show((r.toNat:Nat):Int)=r by omega]at this
 simpa using this
theorem Db{r:Int}(h0:0<=r)(h1:r<128):qp r=ko r:=by
 obtain⟨e1,e2⟩:=Ji h0 h1
 unfold qp ko
 rw[e1,e2]
theorem xa{r:Int}(h0:128<=r)(h1:r<=1114111):qp r=false:=by
 have:=p7 h0 h1
 unfold qp cj aE
 simp
 omega
theorem abW:ko (-1)=false:=by decide+kernel
theorem Xc:ko 0=false:=by decide+kernel
theorem abX:ko 65279=false:=by decide+kernel
theorem BD{nl:Bool}{r:Int}(h:ko r=true):aI nl r=false:=by
 cases hb:aI nl r with
 |false=>rfl
 |true=>
  have:r=32∨r=9∨r=10∨r=13:=by
   unfold aI at hb
   simp only[Bool.or_eq_true,Bool.and_eq_true,beq_iff_eq]at hb
   omega
  have e:ko 32=false∧ko 9=false∧ko 10=false∧ko 13=false:=by decide+kernel
  rcases this with rfl|rfl|rfl|rfl
  ·rw[e.1]at h;cases h
  ·rw[e.2.1]at h;cases h
  ·rw[e.2.2.1]at h;cases h
  ·rw[e.2.2.2]at h;cases h
theorem FR{st:St}(h:ko st.ch=true):cA false st=(true,st):=by
 unfold ko iO at h
 simp only[Bool.or_eq_true,beq_iff_eq]at h
 unfold cA
 by_cases h1:isLetterU st.ch=true∨st.ch=95
 ·rw[if_pos h1]
 ·have h2:isDigitU st.ch=true:=by
   rcases h with h|h
   ·exact absurd h h1
   ·exact h
  rw[if_neg h1,if_pos h2]
  simp
theorem Xd{st:St}(h:ko st.ch=false)(h2:st.ch<128):cA false st=(false,st):=by
 unfold ko iO at h
 simp only[Bool.or_eq_false_iff,beq_eq_false_iff_ne,ne_eq]at h
 unfold cA
 rw[if_neg (by simp[h.1.1,h.1.2]),if_neg (by simp[h.2]),if_neg (by omega)]
theorem xc{O:U}{st:St}(h:fY st):qq O st=if(cA false st).1=true then qq O (aa O (cA false st).2)else(cA false st).2:=by
 unfold qq
 rw[ei (I:=fY) (fun a ha=>an (CT O a ha) (fun s hs=>by
  cases s with
  |go a'=>exact⟨hs.1,hs.2.2⟩
  |out q=>trivial)) h (.out mw)]
 unfold V1
 cases h1:(cA false st).1<;>simp[af.get,cG,h1]
def FT(O:U)(q:Nat):Prop:=iP O q∧∀r w,bA O q r w->ko r=false∧r<128
theorem Std.no{O:U}{q:Nat}{st:St}(h:Std O q st)(he:FT O q):ko st.ch=false∧st.ch<128:=by
 rcases h.ch with h1|⟨_,h1,_⟩
 ·exact he.2 _ _ h1
 ·rw[h1];exact⟨abW,by decide⟩
theorem Std.fY{O:U}{q:Nat}{st:St}(h:Std O q st):fY st:=h.pos.ch
theorem abY{O:U}{p q:Nat}{cs:List Int}(h:Cl O p cs q):∀{st:St},(∀x∈cs,ko x=true)->FT O q->Std O p st->Std O q (qq O st)∧jC O st (qq O st):=by
 induction h with
 |@nil p=>
  intro st _ he bn
  obtain⟨h1,h2⟩:=bn.no he
  rw[xc bn.fY,Xd h1 h2]
  simp only[Bool.false_eq_true,if_false]
  exact⟨bn,jC.refl _ _⟩
 |@cons p w q r cs h1 h2 ih=>
  intro st ha he bn
  obtain⟨e1,e2⟩:=bn.of h1
  have ie:iP O (p+w):=h2.jq he.1
  have hn:=cv bn (by rw[e2];exact ie)
  have hs:=dA bn (by rw[e2];exact ie)
  rw[e2]at hn
  rw[xc bn.fY,FR (by rw[e1];exact ha r (by simp))]
  simp only[if_true]
  obtain⟨g1,g2⟩:=ih (fun x hx=>ha x (by simp[hx])) he hn.1
  exact⟨g1,hs.trans g2⟩
theorem FU{O:U}{p q:Nat}{cs:List Int}(h:Cl O p cs q):∃us bs m,cs=us++bs∧Cl O p us m∧Cl O m bs q∧(∀x∈us,0<=x∧x<128)∧(bs=[]∨∃r w t,bs=r::t∧bA O m r w∧128<=r):=by
 induction h with
 |@nil p=>exact⟨[],[],p,rfl,.nil,.nil,fun x hx=>absurd hx List.not_mem_nil,.inl rfl⟩
 |@cons p w q r cs h1 h2 ih=>
  by_cases hr:r<128
  ·obtain⟨us,bs,m,g1,g2,g3,g4,g5⟩:=ih
   have hw:=h1.w
   exact⟨r::us,bs,m,by rw[g1];rfl,.cons h1 g2,g3,fun x hx=>by
    rcases List.mem_cons.1 hx with rfl|hx
    ·omega
    ·exact g4 x hx,g5⟩
  ·exact⟨[],r::cs,p,rfl,.nil,.cons h1 h2,fun x hx=>absurd hx List.not_mem_nil,.inr ⟨r,w,cs,rfl,h1,by omega⟩⟩
theorem Sk{O:U}{p q:Nat}{cs:List Int}(h:Cl O p cs q){st:St}(ha:∀x∈cs,ko x=true)(he:FT O q)(bn:Std O p st):
 ∃s,dV O st=cW O s∧Std O q s∧jC O st s:=by
 obtain⟨us,bs,m,g1,g2,g3,g4,g5⟩:=FU h
 subst g1
 have hm:iP O m:=g3.jq he.1
 have c1:qp (-1)=false:=by decide+kernel
 have stop:∀r w,bA O m r w->qp r=false:=fun r w hc=>by
  have hw:=hc.w
  rcases g5 with rfl|⟨r',w',t,rfl,k1,k2⟩
  ·cases g3
   obtain⟨i1,i2⟩:=he.2 _ _ hc
   rw[Db (by omega) i2,i1]
  ·rw[(hc.uniq k1).1]
   have:=k1.w
   exact xa k2 (by omega)
 obtain⟨s1,s2⟩:=tz c1 g2 (fun x hx=>by
  rw[Db (g4 x hx).1 (g4 x hx).2];exact ha x (by simp[hx])) hm stop bn
 unfold dV
 rcases g5 with rfl|⟨r',w',t,rfl,k1,k2⟩
 ·cases g3
  have:=(s1.no he).2
  rw[if_neg (by omega)]
  exact⟨_,rfl,s1,s2⟩
 ·have e1:=(s1.of k1).1
  rw[if_pos (by omega)]
  obtain⟨i1,i2⟩:=abY g3 (fun x hx=>ha x (List.mem_append_right _ hx)) he s1
  exact⟨_,rfl,i1,s2.trans i2⟩
theorem ZC{O:U}{D:St->Fin}{K:St->af Fin}{n:St}(h:iO n.ch=true)(h0:0<=n.ch)(h1:n.ch<=1114111)(d:Fin):(A8 O D K n).get d=D (dV O (aa O n)):=by
 by_cases hb:n.ch<128
 ·have e:=(Ji h0 hb).1
  rw[h]at e
  simp[A8,af.get,e]
 ·have e:cj n.ch=false:=by
   have:=xa (r:=n.ch) (by omega) h1
   unfold qp at this
   simp only[Bool.or_eq_false_iff]at this
   exact this.1
  have e2:decide (n.ch>=128)=true:=by simp;omega
  have e3:cA true n=(true,n):=by
   unfold iO at h
   simp only[Bool.or_eq_true,beq_iff_eq]at h
   unfold cA
   rw[if_pos h]
  simp[A8,af.get,e,e2,e3]
theorem NX{O:U}{nl:Bool}{p q w q2:Nat}{cs ds:List Int}{st:St}{r:Int}(eJ:O.size<=2048)(IW:fQ O st)(hg:Go O p st)(hp:p<=O.size)(h:Cl O p cs q)(hb:∀x∈cs,aI nl x=true)
 (hc:bA O q r w)(hl:iO r=true)(hd:Cl O (q+w) ds q2)(hid:∀x∈ds,ko x=true)(he:FT O q2):
 ∃n s,gv O nl st=(cW O s,[])∧wz O q st n∧Std O q2 s∧jC O n s∧s.b=some q:=by
 have hr:ko r=true:=by unfold ko;rw[hl];rfl
 obtain⟨n,hn,e⟩:=kL hg hp h hb (.inl ⟨_,_,hc⟩) (fun r' w' rQ=>by rw[(rQ.uniq hc).1];exact BD hr)
 obtain⟨e1,e2⟩:=hn.gQ.of hc
 have hw:=hc.w
 have c1:iP O (q+n.bD):=by rw[e2];exact hd.jq he.1
 have n1:=cv hn.gQ c1
 have s1:=dA hn.gQ c1
 rw[e2]at n1
 obtain⟨s,i1,i2,i3⟩:=Sk hd hid he n1.1
 have s2:=s1.trans i3
 refine⟨n,s,?_,hn,i2,s2,by rw[s2.on.b];exact hn.b⟩
 rw[dB IW eJ,e,ZC (by rw[e1];exact hl) (by omega) (by omega),i1]
 rfl
def FV:U:=⟨#[32,98,114,101,97,107,32,99,97,115,101,32,99,104,97,110,32,99,111,110,115,116,32,99,111,110,116,105,110,117,101,32,100,101,102,97,117,108,116,32,100,101,102,101,114,32,101,108,115,101,32,102,97,108,108,116,104,114,111,117,103,104,32,102,111,114,32,102,117,110,99,32,103,111,32,103,111,116,111,32,105,102,32,105,109,112,111,114,116,32,105,110,116,101,114,102,97,99,101,32,109,97,112,32,112,97,99,107,97,103,101,32,114,97,110,103,101,32,114,101,116,117,114,110,32,115,101,108,101,99,116,32,115,116,114,117,99,116,32,115,119,105,116,99,104,32,116,121,112,101,32,118,97,114,32]⟩
def gY(s:U):Bool:= !s.toList.isEmpty&&decide (Lib.indexByte s.data.toList 32<0)&&decide (0<=gM FV (NW++s++NW))
theorem abZ:((List.range 47).all fun k=>decide (k<22)||gY (aH k))=true:=by kernel_rfl
theorem Xe{k:Nat}(h0:22<=k)(h1:k<=46):gY (aH k)=true:=by
 have:=List.all_eq_true.1 abZ k (List.mem_range.2 (by omega))
 rw[show decide (k<22)=false by simp;omega]at this
 exact this
theorem toList_inj{a b:U}(h:a.toList=b.toList):a=b:=by
 rw[ByteArray.toList_eq,ByteArray.toList_eq]at h
 apply ByteArray.ext
 exact Array.toList_inj.1 h
theorem Ak{O:U}{s:St}(h:gY (fG O s)=false):cW O s={s with au:=true,lit:=fG O s,tok:=2}:=by
 unfold cW
 rw[if_neg (fun hh=> ?_)]
 obtain⟨_,h2,h3⟩:=hh
 obtain⟨k1,k2⟩:=CU _ h2
 have:=Xe k1 k2
 rw[toList_inj h3,h]at this
 cases this
def ae9(s:U):eP:=⟨1,s,0,0,0⟩
theorem NY:(aH 2).toList=[110,97,109,101]:=by kernel_rfl
theorem NZ{s:St}(h:s.tok=2):Aj s (ae9 s.lit):=by
 refine⟨?_,fun h=>by cases h⟩
 rw[h]
 show gX (aH 2) s.lit (lB s.op)=(1,s.lit)
 unfold gX
 rw[NY]
 rfl
def jS:List U:=[⟨#[60,60,61]⟩,⟨#[62,62,61]⟩,⟨#[38,94,61]⟩,⟨#[46,46,46]⟩,⟨#[60,60]⟩,⟨#[62,62]⟩,⟨#[38,94]⟩,⟨#[43,61]⟩,⟨#[45,61]⟩,⟨#[42,61]⟩,⟨#[47,61]⟩,⟨#[37,61]⟩,⟨#[38,61]⟩,⟨#[124,61]⟩,⟨#[94,61]⟩,⟨#[38,38]⟩,⟨#[124,124]⟩,⟨#[60,45]⟩,⟨#[43,43]⟩,⟨#[45,45]⟩,⟨#[61,61]⟩,⟨#[33,61]⟩,⟨#[60,61]⟩,⟨#[62,61]⟩,⟨#[58,61]⟩,⟨#[43]⟩,⟨#[45]⟩,⟨#[42]⟩,⟨#[47]⟩,⟨#[37]⟩,⟨#[38]⟩,⟨#[124]⟩,⟨#[94]⟩,⟨#[60]⟩,⟨#[62]⟩,⟨#[61]⟩,⟨#[33]⟩,⟨#[126]⟩,⟨#[40]⟩,⟨#[41]⟩,⟨#[91]⟩,⟨#[93]⟩,⟨#[123]⟩,⟨#[125]⟩,⟨#[44]⟩,⟨#[46]⟩,⟨#[58]⟩]
def wA(w:U):Bool:=jS.any fun x=>x.toList==w.toList
def FW(O:U)(q:Nat)(w:U):Prop:=∀w',wA w'=true->Sub O q w'->w'.size<=w.size
structure SgR(O:U)(n:St)(q2:Nat)(w:U)(s:St):Prop where
 gQ:Std O q2 s
 ab:s.ab=n.ab
 mode:s.mode=n.mode
 told:gX (aH s.tok.toNat) s.lit (lB s.op)=(3,w)
 ne:s.tok≠1
 nl:(c_ w=false∧s.au=n.au)∨(c_ w=true∧s.au=true)
 lc:s.line=n.line∧s.aM=n.aM
theorem Jj{O:U}{n x s:St}{q2:Nat}{w:U}(hx:Std O q2 x)(hs:jC O n x)(e1:s.ao=x.ao)(e2:s.p=x.p)(e3:s.bD=x.bD)(e4:s.ch=x.ch)(en:s.ab=x.ab)(em:s.mode=x.mode)(el:s.line=x.line)(ec:s.aM=x.aM)
 (ht:gX (aH s.tok.toNat) s.lit (lB s.op)=(3,w))(ne:s.tok≠1)(nl:(c_ w=false∧s.au=x.au)∨(c_ w=true∧s.au=true)):SgR O n q2 w s:=by
 have k:=hs.bm
 refine⟨hx.same e1 e2 e3 e4,en.trans hs.ab,by rw[em,k],ht,ne,?_,by rw[el,k],by rw[ec,k]⟩
 rcases nl with⟨h1,h2⟩|h
 ·exact .inl ⟨h1,by rw[h2,k]⟩
 ·exact .inr h
theorem ez{O:U}{q:Nat}{w:U}(h:Sub O q w)(i:Nat)(hi:i<w.size)(h1:(w.get! i).toNat<128)(h2:(w.get! i).toNat≠0):bA O (q+i) (w.get! i).toNat 1:=by
 have e:=h.get i hi
 have hl:=h.le
 have:=cM (O:=O) (p:=q+i) (by omega) (by rw[e];exact h1) (by rw[e];exact h2)
 rw[e]at this
 exact this
theorem dZ{O:U}{q:Nat}{n:St}(h:Std O q n){r:Int}(hc:bA O q r 1)(hq:iP O (q+1)):n.ch=r∧Std O (q+1) (aa O n)∧jC O n (aa O n):=by
 obtain⟨e1,e2⟩:=h.of hc
 have h1:=cv h (by rw[e2];exact hq)
 have h2:=dA h (by rw[e2];exact hq)
 rw[e2]at h1
 exact⟨e1,h1.1,h2⟩
theorem step1{O:U}{q:Nat}{n:St}{a:UInt8}(h:Std O q n)(hS:Sub O q ⟨#[a]⟩)(ha:0<a.toNat∧a.toNat<128)(hq:iP O (q+1)):n.ch=a.toNat∧Std O (q+1) (aa O n)∧jC O n (aa O n):=
 dZ h (ez hS 0 (by show 0<1;decide) ha.2 (Nat.ne_of_gt ha.1)) hq
theorem step2{O:U}{q:Nat}{n:St}{a b:UInt8}(h:Std O q n)(hS:Sub O q ⟨#[a,b]⟩)(ha:0<a.toNat∧a.toNat<128)(hb:0<b.toNat∧b.toNat<128)(hq:iP O (q+2)):
 n.ch=a.toNat∧(aa O n).ch=b.toNat∧Std O (q+2) (aa O (aa O n))∧jC O n (aa O (aa O n)):=by
 have c1:bA O (q+1) b.toNat 1:=ez hS 1 (by show 1<2;decide) hb.2 (Nat.ne_of_gt hb.1)
 obtain⟨e0,h1,s1⟩:=dZ h (ez hS 0 (by show 0<2;decide) ha.2 (Nat.ne_of_gt ha.1)) (.inl ⟨_,_,c1⟩)
 obtain⟨e1,h2,s2⟩:=dZ h1 c1 hq
 exact⟨e0,e1,h2,s1.trans s2⟩
theorem ZD{O:U}{q:Nat}{n:St}{a b c:UInt8}(h:Std O q n)(hS:Sub O q ⟨#[a,b,c]⟩)(ha:0<a.toNat∧a.toNat<128)(hb:0<b.toNat∧b.toNat<128)(hc:0<c.toNat∧c.toNat<128)(hq:iP O (q+3)):
 n.ch=a.toNat∧(aa O n).ch=b.toNat∧(aa O (aa O n)).ch=c.toNat∧Std O (q+3) (aa O (aa O (aa O n)))∧jC O n (aa O (aa O (aa O n))):=by
 have c1:bA O (q+1) b.toNat 1:=ez hS 1 (by show 1<3;decide) hb.2 (Nat.ne_of_gt hb.1)
 have c2:bA O (q+2) c.toNat 1:=ez hS 2 (by show 2<3;decide) hc.2 (Nat.ne_of_gt hc.1)
 obtain⟨e0,h1,s1⟩:=dZ h (ez hS 0 (by show 0<3;decide) ha.2 (Nat.ne_of_gt ha.1)) (.inl ⟨_,_,c1⟩)
 obtain⟨e1,h2,s2⟩:=dZ h1 c1 (.inl ⟨_,_,c2⟩)
 obtain⟨e2,h3,s3⟩:=dZ h2 c2 hq
 exact⟨e0,e1,e2,h3,(s1.trans s2).trans s3⟩
theorem ae_{O:U}{q:Nat}{w:U}{x:St}(hS:Sub O q w)(hx:Std O (q+w.size) x)(c:UInt8)(h0:0<c.toNat∧c.toNat<128)(oL:¬Sub O q (w++⟨#[c]⟩)):x.ch≠c.toNat:=by
 intro e
 refine oL ⟨?_,fun j hj=> ?_⟩
 ·have:=(hx.at (by omega)).lt
  rw[fB]
  show q+(w.size+1)<=_
  omega
 ·have hj:j<w.size+1:=by have:=fB w ⟨#[c]⟩;have hs1:(⟨#[c]⟩:U).size=1:=rfl;omega
  by_cases h:j<w.size
  ·rw[pw _ _ _ h];exact hS.get j h
  ·have:j=w.size:=by omega
   subst this
   have e2:=((hx.at (by omega)).byte (by omega)).1
   have e3:=pZ w ⟨#[c]⟩ 0
   rw[Nat.add_zero]at e3
   rw[e3]
   show _=c
   refine UInt8.toNat_inj.1 ?_
   omega
theorem FW.no{O:U}{q:Nat}{w:U}(h:FW O q w)(c:UInt8)(qx:wA (w++⟨#[c]⟩)=true):¬Sub O q (w++⟨#[c]⟩):=fun hs=>by
 have:=h _ qx hs
 rw[fB]at this
 have hs1:(⟨#[c]⟩:U).size=1:=rfl
 omega
structure Sl(O:U)(q:Nat)(w:U):Prop where
 sub:Sub O q w
 max:FW O q w
 cl:iP O (q+w.size)
 r1:¬Sub O q ⟨#[47,47]⟩
 r2:¬Sub O q ⟨#[47,42]⟩
 ky:w.toList=[46]->∀x,Std O (q+1) x->aE x.ch=false
 ah4:w.toList=[46]->bA O (q+1) 46 1->iP O (q+2)
def ab0(O:U)(nl:Bool)(n:St)(q2:Nat)(w:U):Prop:=∃s,wy O nl ((jM O nl n).get iN)=(s,[])∧SgR O n q2 w s
theorem y_(O:U)(o p:Int)(st:St):aa O (Hc o p st)=Hc o p (aa O st):=rfl
theorem BE(O:U)(o:Int)(st:St):aa O {st with op:=o}={aa O st with op:=o}:=rfl
theorem Sm(o p:Int)(st:St):(Hc o p st).ch=st.ch:=rfl
theorem ZE(o:Int)(st:St):({st with op:=o}:St).ch=st.ch:=rfl
theorem ah5{O:U}{q:Nat}{n:St}{nl:Bool}(h:Std O q n)(hS:Sl O q ⟨#[38,94,61]⟩):ab0 O nl n (q+3) ⟨#[38,94,61]⟩:=by
 obtain⟨e0,e1,e2,hx,hs⟩:=ZD h hS.sub (by decide) (by decide) (by decide) hS.cl
 have e0:n.ch=38:=e0
 have e1:(aa O n).ch=94:=e1
 have e2:(aa O (aa O n)).ch=61:=e2
 exact⟨tk 5 (aa O {aa O (Hc 20 5 (aa O n))with op:=21}),by simp[jM,af.get,fi,te,DT,E4,wy,lP,y_,BE,Sm,ZE,show aE 46=false by decide,e0,e1,e2],Jj hx hs rfl rfl rfl rfl rfl rfl rfl rfl (by kernel_rfl) (by show(5:Int)≠1;decide) (.inl ⟨by kernel_rfl,rfl⟩)⟩
theorem afa{O:U}{q:Nat}{n:St}{nl:Bool}(h:Std O q n)(hb:n.b=some q)(hS:Sl O q ⟨#[46]⟩):ab0 O nl n (q+1) ⟨#[46]⟩:=by
 obtain⟨e0,hx,hs⟩:=step1 h hS.sub (by decide) hS.cl
 have e0:n.ch=46:=e0
 have hd:=hS.ky (by kernel_rfl) _ hx
 by_cases h2:(aa O n).ch=46
 ·have hc:bA O (q+1) 46 1:=by
   have:=hx.at (by omega)
   rw[h2]at this
   have hw:=(this.byte (by decide)).2
   rw[hw]at this
   exact this
  obtain⟨_,AD,FI⟩:=dZ hx hc (hS.ah4 (by kernel_rfl) hc)
  have h3:(aa O (aa O n)).ch≠46:=fun e=>by
   have Ay:=(AD.at (by omega)).lt
   have fm:=((AD.at (by omega)).byte (by omega)).1
   have cz:=(hc.byte (by decide)).1
   have rO:=hc.lt
   have:=hS.max ⟨#[46,46,46]⟩ (by kernel_rfl) ⟨by show q+3<=_;omega,fun j hj=>by
    have hj:j<3:=hj
    match j,hj with
    |0,_=>exact hS.sub.get 0 (by decide)
    |1,_=>exact UInt8.toNat_inj.1 (by show _=46;omega)
    |2,_=>exact UInt8.toNat_inj.1 (by show _=46;rw[show q+2=q+1+1 from rfl];omega)⟩
   exact absurd this (by decide)
  have hr:Std O q (cd O (aa O (aa O n)))∧(cd O (aa O (aa O n))).ab=(aa O (aa O n)).ab:=by
   refine w9 ?_ (.inl ⟨_,_,ez hS.sub 0 (by decide) (by decide) (by decide)⟩)
   show(aa O (aa O n)).b.getD 0=q
   rw[(hs.trans FI).on.b,hb];rfl
  obtain⟨_,hy,hs3⟩:=dZ hr.1 (ez hS.sub 0 (by decide) (by decide) (by decide)) hS.cl
  refine⟨tk 20 (aa O (cd O (aa O (aa O n)))),by simp[jM,af.get,fi,te,DT,E4,wy,lP,e0,h2,h3,show aE 46=false by decide],?_⟩
  refine⟨hy.same rfl rfl rfl rfl,?_,rfl,by kernel_rfl,by show(20:Int)≠1;decide,.inl ⟨by kernel_rfl,rfl⟩,⟨rfl,rfl⟩⟩
  show(aa O (cd O (aa O (aa O n)))).ab=n.ab
  rw[hs3.ab,hr.2,(hs.trans FI).ab]
 ·exact⟨tk 20 (aa O n),by simp[jM,af.get,fi,te,DT,E4,wy,lP,e0,h2,hd],Jj hx hs rfl rfl rfl rfl rfl rfl rfl rfl (by kernel_rfl) (by show(20:Int)≠1;decide) (.inl ⟨by kernel_rfl,rfl⟩)⟩
theorem ab1{O:U}{q:Nat}{n:St}{nl:Bool}{w:U}(h:Std O q n)(hb:n.b=some q)(hw:wA w=true)(hS:Sl O q w):ab0 O nl n (q+w.size) w:=by
 unfold wA jS at hw
 simp only[List.any_cons,List.any_nil,Bool.or_eq_true,beq_iff_eq,Bool.or_false]at hw
 rcases hw with hw|hw|hw|hw|hw|hw|hw|hw|hw|hw|hw|hw|hw|hw|hw|hw|hw|hw|hw|hw|hw|hw|hw|hw|hw|hw|hw|hw|hw|hw|hw|hw|hw|hw|hw|hw|hw|hw|hw|hw|hw|hw|hw|hw|hw|hw|hw
 all_goals obtain rfl:=toList_inj hw
 all_goals first
  |exact afa h hb hS
  |exact ah5 h hS
  |(first
     |obtain⟨e0,e1,e2,hx,hs⟩:=ZD h hS.sub (by decide) (by decide) (by decide) hS.cl
     |obtain⟨e0,e1,hx,hs⟩:=step2 h hS.sub (by decide) (by decide) hS.cl
     |obtain⟨e0,hx,hs⟩:=step1 h hS.sub (by decide) hS.cl
    have k:=ae_ hS.sub hx
    try have r1:_≠(47:Int):=k 47 (by decide) hS.r1
    try have r2:_≠(42:Int):=k 42 (by decide) hS.r2
    try have k1:_≠(61:Int):=k 61 (by decide) (hS.max.no 61 (by decide+kernel))
    try have k2:_≠(38:Int):=k 38 (by decide) (hS.max.no 38 (by decide+kernel))
    try have k3:_≠(124:Int):=k 124 (by decide) (hS.max.no 124 (by decide+kernel))
    try have k4:_≠(45:Int):=k 45 (by decide) (hS.max.no 45 (by decide+kernel))
    try have k5:_≠(43:Int):=k 43 (by decide) (hS.max.no 43 (by decide+kernel))
    try have k6:_≠(60:Int):=k 60 (by decide) (hS.max.no 60 (by decide+kernel))
    try have k7:_≠(62:Int):=k 62 (by decide) (hS.max.no 62 (by decide+kernel))
    try have k8:_≠(94:Int):=k 94 (by decide) (hS.max.no 94 (by decide+kernel))
    clear k h hb
    refine⟨_,by simp[jM,af.get,fi,te,DT,E4,wy,lP,y_,BE,Sm,ZE,show aE 46=false by decide, *];rfl,?_⟩
    exact Jj hx hs rfl rfl rfl rfl rfl rfl rfl rfl (by kernel_rfl) (by simp[tk]) (by first|exact .inl ⟨by decide+kernel,rfl⟩|exact .inr ⟨by decide+kernel,rfl⟩))
theorem ab2:(jS.all fun w=>decide (0<w.size)&&(w.data.toList.all fun b=>decide (0<b.toNat)&&decide (b.toNat<128)&& !(decide (48<=b.toNat)&&decide (b.toNat<=57))&& !cj ((b.toNat:Nat):Int)&& !aI true ((b.toNat:Nat):Int)&& !aI false ((b.toNat:Nat):Int)))=true:=by kernel_rfl
structure SgB(b:UInt8):Prop where
 lo:0<b.toNat
 hi:b.toNat<128
 ky:¬(48<=b.toNat∧b.toNat<=57)
 lt:cj ((b.toNat:Nat):Int)=false
 bl:∀nl,aI nl ((b.toNat:Nat):Int)=false
theorem Dc{w:U}(h:wA w=true):w∈jS:=by
 unfold wA at h
 rw[List.any_eq_true]at h
 obtain⟨x,hx,he⟩:=h
 have e:x=w:=toList_inj (by simpa using he)
 rw[←e]
 exact hx
theorem lD{w:U}(h:w∈jS):0<w.size∧∀j,j<w.size->SgB (w.get! j):=by
 have:=List.all_eq_true.1 ab2 w h
 rw[Bool.and_eq_true,decide_eq_true_iff]at this
 refine⟨this.1,fun j hj=> ?_⟩
 have hl:j<w.data.toList.length:=by rw[bu];exact hj
 have hm:w.get! j∈w.data.toList:=by
  rw[dM,List.getD_eq_getElem?_getD,List.getElem?_eq_getElem hl]
  exact List.getElem_mem hl
 have:=List.all_eq_true.1 this.2 _ hm
 simp only[Bool.and_eq_true,decide_eq_true_eq,Bool.not_eq_true',Bool.and_eq_false_iff,decide_eq_false_iff_not]at this
 obtain⟨⟨⟨⟨⟨a1,a2⟩,a3⟩,a4⟩,a5⟩,a6⟩:=this
 exact⟨a1,a2,by omega,a4,fun nl=>by cases nl<;>assumption⟩
theorem N0{O:U}{nl:Bool}{p q:Nat}{cs:List Int}{st:St}{w:U}(eJ:O.size<=2048)(IW:fQ O st)(hg:Go O p st)(hp:p<=O.size)(h:Cl O p cs q)(hb:∀x∈cs,aI nl x=true)
 (hw:wA w=true)(hS:Sl O q w):∃n s,gv O nl st=(s,[])∧wz O q st n∧SgR O n (q+w.size) w s:=by
 obtain⟨z0,z1⟩:=lD (Dc hw)
 have z:=z1 0 z0
 have hc:bA O q (((w.get! 0).toNat:Nat):Int) 1:=by
  have:=ez hS.sub 0 z0 z.hi (Nat.ne_of_gt z.lo)
  rw[Nat.add_zero]at this
  exact this
 obtain⟨n,hn,e⟩:=kL hg hp h hb (.inl ⟨_,_,hc⟩) (fun r' w' rQ=>by rw[(rQ.uniq hc).1];exact z.bl nl)
 have kE:=(hn.gQ.of hc).1
 obtain⟨s,k1,k2⟩:=ab1 (nl:=nl) hn.gQ hn.b hw hS
 refine⟨n,s,?_,hn,k2⟩
 rw[dB IW eJ,e,Bs (by rw[kE];exact z.lt) (by rw[kE];have:=z.hi;omega)]
 exact k1
def N1:U:=⟨#[47,47]⟩
def Jk:U:=⟨#[47,42]⟩
theorem zb{s w:U}:Lib.hasPrefix s.data.toList w.data.toList=true↔Sub s 0 w:=by
 unfold Lib.hasPrefix
 rw[List.isPrefixOf_iff_prefix]
 have hs:s.data.toList.length=s.size:=bu s
 have hw:w.data.toList.length=w.size:=bu w
 constructor
 ·rintro⟨t,ht⟩
  refine⟨by rw[←hs,←hw,←ht];simp,fun j hj=> ?_⟩
  rw[Nat.zero_add,dM,dM,←ht]
  simp only[List.getD_eq_getElem?_getD]
  rw[List.getElem?_append_left (by omega)]
 ·intro h
  have hle:=h.le
  refine List.prefix_iff_eq_take.2 (List.ext_getElem? (fun j=> ?_))
  rw[List.getElem?_take]
  by_cases hj:j<w.size
  ·rw[if_pos (by omega)]
   have:=h.get j hj
   rw[Nat.zero_add,dM,dM]at this
   simp only[List.getD_eq_getElem?_getD]at this
   rw[List.getElem?_eq_getElem (by omega),List.getElem?_eq_getElem (by omega)]at this⊢
   simp only[Option.getD_some]at this
   rw[this]
  ·rw[if_neg (by omega),List.getElem?_eq_none (by omega)]
theorem Sn{T w:U}{p:Nat}(hp:p<=T.size):Sub (T.extract p T.size) 0 w↔Sub T p w:=by
 have eJ:=aA T p T.size (Nat.le_refl _)
 constructor
 ·intro h
  have hle:=h.le
  refine⟨by omega,fun j hj=> ?_⟩
  have:=h.get j hj
  rw[Nat.zero_add,a7 _ _ _ _ (Nat.le_refl _) (by omega)]at this
  exact this
 ·intro h
  have hle:=h.le
  refine⟨by omega,fun j hj=> ?_⟩
  rw[Nat.zero_add,a7 _ _ _ _ (Nat.le_refl _) (by omega)]
  exact h.get j hj
theorem ab3{w:U}(h:w∈jS):wA w=true:=by
 unfold wA
 exact List.any_eq_true.2 ⟨w,h,by simp⟩
theorem FX{O:U}{nl:Bool}{p q:Nat}{cs:List Int}{st:St}(eJ:O.size<=2048)(hg:Go O p st)(hp:p<=O.size)(h:Cl O p cs q)(hb:∀x∈cs,aI nl x=true)(hq:iP O q)(hs:∀r w,bA O q r w->aI nl r=false):
 ∃n,wz O q st n∧gV O n∧iY O nl st=A8 O (fun s=>Fin.done s []) (jM O nl) n:=by
 obtain⟨g1,g2⟩:=Br (hg.same (b:=stop st) rfl rfl rfl rfl) hp h hb hq hs
 have k:=g2.bm
 refine⟨gC (decide (u64 (1+(skip O (aI nl) (stop st)).aC)>u64 (1+st.aC))||u64 (1+st.aL)==1) (skip O (aI nl) (stop st)),⟨g1.same rfl rfl rfl rfl,?_,g2.ab,?_,?_,_,_,rfl⟩,ti g1.pos eJ,rfl⟩
 ·show some _=some q
  rw[g1.cut]
 ·show(skip O (aI nl) (stop st)).au=_
  rw[k];rfl
 ·show(skip O (aI nl) (stop st)).mode=_
  rw[k];rfl
def bL(l:List Int):Bool:=l.any fun x=>x != 95
def eA(l:List Int):Bool:=l.any fun x=>x==95
def bitsOf(a b:Bool):Int:=(if a=true then 1 else 0)+(if b=true then 2 else 0)
theorem Jl(a b:Bool):nv (bitsOf a b) 1=bitsOf true b:=by cases a<;>cases b<;>kernel_rfl
theorem Jm(a b:Bool):nv (bitsOf a b) 2=bitsOf a true:=by cases a<;>cases b<;>kernel_rfl
theorem tG(a b c d:Bool):nv (bitsOf a b) (bitsOf c d)=bitsOf (a||c) (b||d):=by cases a<;>cases b<;>cases c<;>cases d<;>kernel_rfl
theorem and_one(a b:Bool):nW (bitsOf a b) 1=bitsOf a false:=by cases a<;>cases b<;>kernel_rfl
theorem KU(a b:Bool):nW (bitsOf a b) 2=bitsOf false b:=by cases a<;>cases b<;>kernel_rfl
theorem gV.nx{O:U}{p w:Nat}{r:Int}{st:St}(h:gV O st)(bn:Std O p st)(hc:bA O p r w)(hr:r≠10):gV O (aa O st):=(h.next (by rw[(bn.of hc).1];exact hr)).1
structure rS(O:U)(p:Nat)(st:St):Prop where
 gQ:Std O p st
 off:gV O st
theorem rS.next{O:U}{p:Nat}{r:Int}{st:St}(h:rS O p st)(hc:bA O p r 1)(hr:r≠10)(hq:iP O (p+1)):st.ch=r∧rS O (p+1) (aa O st)∧jC O st (aa O st):=by
 obtain⟨e,h1,h2⟩:=dZ h.gQ hc hq
 exact⟨e,⟨h1,h.off.nx h.gQ hc hr⟩,h2⟩
def fS(x:Int):Bool:=aE x||x==95
def tH(x:Int):Bool:=dj x||x==95
theorem l9{x:Int}(h:fS x=true):(48<=x∧x<=57)∨x=95:=by
 unfold fS at h
 simp only[Bool.or_eq_true,beq_iff_eq]at h
 rcases h with h|h
 ·exact .inl (jZ h)
 ·exact .inr h
theorem Xf:((List.range 128).all fun n=>(dj (n:Nat)==(decide (48<=n∧n<=57)||decide (97<=n∧n<=102)||decide (65<=n∧n<=70)))&&(cj (n:Nat)==(decide (97<=n∧n<=122)||decide (65<=n∧n<=90)||decide (n=95))))=true:=by kernel_rfl
theorem N2{x:Int}(h0:128<=x)(h1:x<=1114111):dj x=false:=by
 have:=p7 h0 h1
 unfold dj
 simp
 omega
theorem Sp{x:Int}(h0:0<=x)(h1:x<=1114111):dj x=true↔((48<=x∧x<=57)∨(97<=x∧x<=102)∨(65<=x∧x<=70)):=by
 by_cases h:x<128
 ·have:=List.all_eq_true.1 Xf x.toNat (List.mem_range.2 (by omega))
  rw[show((x.toNat:Nat):Int)=x by omega]at this
  simp only[Bool.and_eq_true,beq_iff_eq]at this
  rw[this.1]
  simp
  omega
 ·rw[N2 (by omega) h1]
  simp
  omega
theorem KV{x:Int}(h0:0<=x)(h1:x<=1114111)(h:tH x=true):(48<=x∧x<=57)∨(97<=x∧x<=102)∨(65<=x∧x<=70)∨x=95:=by
 unfold tH at h
 simp only[Bool.or_eq_true,beq_iff_eq]at h
 rcases h with h|h
 ·have:=(Sp h0 h1).1 h;omega
 ·omega
def l_(c:Int->Bool)(O:U)(q:Nat):Prop:=iP O q∧∀r w,bA O q r w->c r=false
theorem l_.no{c:Int->Bool}(hc:c (-1)=false){O:U}{q:Nat}{st:St}(h:l_ c O q)(bn:Std O q st):c st.ch=false:=by
 rcases bn.ch with h1|⟨_,h1,_⟩
 ·exact h.2 _ _ h1
 ·rw[h1];exact hc
theorem FZ(O:U)(mx:Int)(st:St)(d inv:Int):iW O mx (st,d,inv)=
 if fS st.ch=true then(if st.ch=95 then iW O mx (aa O st,nv d 2,inv)else iW O mx (aa O st,nv d 1,if st.ch>=mx∧inv<0 then lY st else inv))else(st,d,inv):=by
 unfold iW
 rw[ei (I:=fun _=>True) (fun a _=>an (wP O mx a) (fun s hs=>by
  cases s with
  |go a'=>exact⟨trivial,hs.2⟩
  |out q=>trivial)) trivial (.out (mw,0,0))]
 unfold yl vN fS
 by_cases h1:st.ch=95
 ·have e:aE 95=false:=by decide
  simp[af.get,cG,h1,e]
 ·cases h2:aE st.ch
  ·simp[af.get,cG,h1,h2]
  ·by_cases h3:st.ch>=mx
   ·by_cases h4:inv<0
    ·simp[af.get,cG,h1,h2,h3,h4]
    ·simp[af.get,cG,h1,h2,h3,h4]
   ·simp[af.get,cG,h1,h2,h3]
theorem F1(O:U)(st:St)(d:Int):cP O (st,d)=
 if fS st.ch=true then(if st.ch=95 then cP O (aa O st,nv d 2)else cP O (aa O st,nv d 1))else(st,d):=by
 unfold cP
 rw[ei (I:=fun _=>True) (fun a _=>an (wQ O a) (fun s hs=>by
  cases s with
  |go a'=>exact⟨trivial,hs.2⟩
  |out q=>trivial)) trivial (.out (mw,0))]
 unfold Ac Ks fS
 by_cases h1:st.ch=95
 ·have e:aE 95=false:=by decide
  simp[af.get,cG,h1,e]
 ·cases h2:aE st.ch
  ·simp[af.get,cG,h1,h2]
  ·have h3:=jZ h2
   have h4:¬58<=st.ch:=by omega
   simp[af.get,cG,h1,h2,h4]
theorem F2(O:U)(st:St)(d:Int):lh O (st,d)=
 if tH st.ch=true then(if st.ch=95 then lh O (aa O st,nv d 2)else lh O (aa O st,nv d 1))else(st,d):=by
 unfold lh
 rw[ei (I:=fun _=>True) (fun a _=>an (wR O a) (fun s hs=>by
  cases s with
  |go a'=>exact⟨trivial,hs.2⟩
  |out q=>trivial)) trivial (.out (mw,0))]
 unfold Ae tH
 by_cases h1:st.ch=95
 ·have e:dj 95=false:=by decide
  simp[af.get,cG,h1,e]
 ·cases h2:dj st.ch
  ·simp[af.get,cG,h1,h2]
  ·simp[af.get,cG,h1,h2]
def jr(mx:Int)(l:List Int):Bool:=l.any fun x=>x != 95&&decide (x>=mx)
theorem Xg{O:U}{mx:Int}{p q:Nat}{cs:List Int}(h:Cl O p cs q):∀{st:St} (a b:Bool) (inv:Int),(∀x∈cs,fS x=true)->l_ fS O q->rS O p st->
 ∃aO jl,iW O mx (st,bitsOf a b,inv)=(aO,bitsOf (a||bL cs) (b||eA cs),jl)∧rS O q aO∧jC O st aO∧(if inv<0 then(if jr mx cs=true then 0<=jl else jl=inv)else jl=inv):=by
 induction h with
 |@nil p=>
  intro st a b inv _ he bn
  rw[FZ,if_neg (by rw[he.no (by decide) bn.gQ];decide)]
  refine⟨st,inv,by simp[bL,eA],bn,jC.refl _ _,?_⟩
  split<;>simp[jr]
 |@cons p w q r cs h1 h2 ih=>
  intro st a b inv ha he bn
  have hr:=l9 (ha r (by simp))
  have hw:=h1.w
  obtain⟨_,rfl⟩:=h1.byte (by omega)
  obtain⟨e,g1,g2⟩:=bn.next h1 (by omega) (h2.jq he.1)
  rw[FZ,if_pos (by rw[e];exact ha r (by simp))]
  by_cases BF:r=95
  ·rw[if_pos (by rw[e];exact BF),Jm]
   obtain⟨aO,jl,k1,k2,k3,k4⟩:=ih a true inv (fun x hx=>ha x (by simp[hx])) he g1
   refine⟨aO,jl,?_,k2,g2.trans k3,?_⟩
   ·rw[k1];simp[bL,eA,BF]
   ·simpa[jr,BF] using k4
  ·rw[if_neg (by rw[e];exact BF),Jl]
   obtain⟨aO,jl,k1,k2,k3,k4⟩:=ih true b (if st.ch>=mx∧inv<0 then lY st else inv) (fun x hx=>ha x (by simp[hx])) he g1
   have afb:(r != 95)=true:=by simpa using BF
   have afc:(r==95)=false:=by simpa using BF
   refine⟨aO,jl,?_,k2,g2.trans k3,?_⟩
   ·rw[k1];simp[bL,eA,afb,afc]
   ·have hco:=bn.off.lY
    rw[e]at k4
    by_cases hi:inv<0
    ·rw[if_pos hi]
     by_cases hm:r>=mx
     ·have ah6:¬lY st<0:=by omega
      rw[if_pos (show r>=mx∧inv<0 from⟨hm,hi⟩),if_neg ah6]at k4
      rw[if_pos (by simp[jr,afb,hm])]
      omega
     ·rw[if_neg (show¬(r>=mx∧inv<0) from fun h=>hm h.1),if_pos hi]at k4
      have:jr mx (r::cs)=jr mx cs:=by simp[jr,hm]
      rw[this];exact k4
    ·rw[if_neg hi]
     rw[if_neg (show¬(r>=mx∧inv<0) from fun h=>hi h.2),if_neg hi]at k4
     exact k4
theorem Xh{O:U}{p q:Nat}{cs:List Int}(h:Cl O p cs q):∀{st:St} (a b:Bool),(∀x∈cs,fS x=true)->l_ fS O q->rS O p st->
 ∃aO,cP O (st,bitsOf a b)=(aO,bitsOf (a||bL cs) (b||eA cs))∧rS O q aO∧jC O st aO:=by
 induction h with
 |@nil p=>
  intro st a b _ he bn
  rw[F1,if_neg (by rw[he.no (by decide) bn.gQ];decide)]
  exact⟨st,by simp[bL,eA],bn,jC.refl _ _⟩
 |@cons p w q r cs h1 h2 ih=>
  intro st a b ha he bn
  have hr:=l9 (ha r (by simp))
  obtain⟨_,rfl⟩:=h1.byte (by omega)
  obtain⟨e,g1,g2⟩:=bn.next h1 (by omega) (h2.jq he.1)
  rw[F1,if_pos (by rw[e];exact ha r (by simp))]
  by_cases BF:r=95
  ·rw[if_pos (by rw[e];exact BF),Jm]
   obtain⟨aO,k1,k2,k3⟩:=ih a true (fun x hx=>ha x (by simp[hx])) he g1
   exact⟨aO,by rw[k1];simp[bL,eA,BF],k2,g2.trans k3⟩
  ·rw[if_neg (by rw[e];exact BF),Jl]
   obtain⟨aO,k1,k2,k3⟩:=ih true b (fun x hx=>ha x (by simp[hx])) he g1
   exact⟨aO,by rw[k1];simp[bL,eA,bne,beq_eq_false_iff_ne.2 BF],k2,g2.trans k3⟩
theorem Xi{O:U}{p q:Nat}{cs:List Int}(h:Cl O p cs q):∀{st:St} (a b:Bool),(∀x∈cs,tH x=true)->l_ tH O q->rS O p st->
 ∃aO,lh O (st,bitsOf a b)=(aO,bitsOf (a||bL cs) (b||eA cs))∧rS O q aO∧jC O st aO:=by
 induction h with
 |@nil p=>
  intro st a b _ he bn
  rw[F2,if_neg (by rw[he.no (by decide) bn.gQ];decide)]
  exact⟨st,by simp[bL,eA],bn,jC.refl _ _⟩
 |@cons p w q r cs h1 h2 ih=>
  intro st a b ha he bn
  have hw:=h1.w
  have hr:=KV (by omega) (by omega) (ha r (by simp))
  obtain⟨_,rfl⟩:=h1.byte (by omega)
  obtain⟨e,g1,g2⟩:=bn.next h1 (by omega) (h2.jq he.1)
  rw[F2,if_pos (by rw[e];exact ha r (by simp))]
  by_cases BF:r=95
  ·rw[if_pos (by rw[e];exact BF),Jm]
   obtain⟨aO,k1,k2,k3⟩:=ih a true (fun x hx=>ha x (by simp[hx])) he g1
   exact⟨aO,by rw[k1];simp[bL,eA,BF],k2,g2.trans k3⟩
  ·rw[if_neg (by rw[e];exact BF),Jl]
   obtain⟨aO,k1,k2,k3⟩:=ih true b (fun x hx=>ha x (by simp[hx])) he g1
   exact⟨aO,by rw[k1];simp[bL,eA,bne,beq_eq_false_iff_ne.2 BF],k2,g2.trans k3⟩
def gZ(b:Int):Int->Bool:=if b<=10 then fS else tH
theorem BG{O:U}{b:Int}(hb:iw b){p q:Nat}{cs:List Int}(h:Cl O p cs q){st:St}(inv:Int)(ha:∀x∈cs,gZ b x=true)(he:l_ (gZ b) O q)(bn:rS O p st):
 ∃aO jl,bY O b st inv=(aO,bitsOf (bL cs) (eA cs),jl)∧rS O q aO∧jC O st aO∧(if inv<0 then(if b<=10∧jr (48+b) cs=true then 0<=jl else jl=inv)else jl=inv):=by
 unfold bY
 by_cases hle:b<=10
 ·have e:gZ b=fS:=by unfold gZ;rw[if_pos hle]
  rw[e]at ha he
  have hm:IntKind.i32.wrap (IntKind.i64.wrap (48+b))=48+b:=by rcases hb with rfl|rfl|rfl|rfl<;>decide
  obtain⟨aO,jl,k1,k2,k3,k4⟩:=Xg (mx:=48+b) h false false inv ha he bn
  rw[if_pos hle,hm]
  refine⟨aO,jl,?_,k2,k3,?_⟩
  ·have:bitsOf false false=0:=rfl
   rw[this]at k1
   rw[k1];simp
  ·simpa[hle] using k4
 ·have e:gZ b=tH:=by unfold gZ;rw[if_neg hle]
  rw[e]at ha he
  obtain⟨aO,k1,k2,k3⟩:=Xi h false false ha he bn
  have:bitsOf false false=0:=rfl
  rw[this]at k1
  rw[if_neg hle,k1]
  refine⟨aO,inv,by simp,k2,k3,?_⟩
  split<;>simp[hle]
theorem Cl.split{O:U}{bs:List Int}{q:Nat}:∀{us:List Int} {p:Nat},Cl O p (us++bs) q->∃m,Cl O p us m∧Cl O m bs q
 |[],p,h=>⟨p,.nil,h⟩
 |a::us,p,h=>by
  cases h with
  |cons h1 h2=>
   obtain⟨m,g1,g2⟩:=Cl.split h2
   exact⟨m,.cons h1 g1,g2⟩
theorem F3{O:U}{n:St}{s:bh}(h:gf O n s):(dd O True af.ae s).get bP=
 (Ha ((EY O ((q_ O ((DS O True ((EW ((IN O s).get bP)).get bP)).get bP)).get bP)).get bP)).get bP∧
 gf O n ((q_ O ((DS O True ((EW ((IN O s).get bP)).get bP)).get bP)).get bP):=by
 have h2:=sZ h
 have i2:=dI (d:=bP) h2
 have h3:=s_ i2
 have i3:=dI (d:=bP) h3
 have h4:=tb (B:=True) trivial i3
 have i4:=dI (d:=bP) h4
 have h5:=pf i4
 have i5:=dI (d:=bP) h5
 have h6:=CY i5
 have i6:=dI (d:=bP) h6
 have h7:=CZ i6
 refine⟨?_,i5⟩
 unfold dd
 rw[get_bind h2 _ _ bP,get_bind h3 _ _ bP,get_bind h4 _ _ bP,get_bind h5 _ _ bP,get_bind h6 _ _ bP,get_bind h7 _ _ bP]
 rfl
structure Np(O:U)(n:St)(q:Nat)(s:bh):Prop where
 Xj:rS O q s.st
 Dd:s.ok=true->s.st.ab=n.ab
 bad:s.ok=false->n.ab.length<s.st.ab.length
theorem rS.err{O:U}{q:Nat}{st:St}(h:rS O q st)(m:U):rS O q (error m st):=⟨h.gQ.same rfl rfl rfl rfl,(h.off.error m).1⟩
theorem F4(m:U)(st:St):st.ab.length<(error m st).ab.length:=by rw[gD];omega
theorem Np.on{O:U}{n x:St}{q q':Nat}{s s':bh}(h:Np O n q s)(hx:rS O q' x)(hs:jC O s.st x)(e1:s'.st=x)(e2:s'.ok=s.ok):Np O n q' s':=
 ⟨by rw[e1];exact hx,fun h1=>by rw[e1,hs.ab];exact h.Dd (by rw[←e2];exact h1),fun h1=>by rw[e1,hs.ab];exact h.bad (by rw[←e2];exact h1)⟩
theorem Np.err{O:U}{n:St}{q:Nat}{s s':bh}(h:Np O n q s)(m:U)(e1:s'.st=error m s.st)(e2:s'.ok=false):Np O n q s':=by
 have hm:=F4 m s.st
 refine⟨by rw[e1];exact h.Xj.err m,fun h1=>(by rw[e2]at h1;cases h1),fun _=> ?_⟩
 rw[e1]
 cases hk:s.ok with
 |true=>have:=h.Dd hk;rw[this]at hm;exact hm
 |false=>have:=h.bad hk;omega
structure Nf(ok:Bool)(kind base pre:Int)(a b:Bool)(s:bh):Prop where
 ok:s.ok=ok
 kind:s.kind=kind
 base:s.base=base
 pre:s.pre=pre
 ky:s.ky=bitsOf a b
theorem De(a b:Bool):(bitsOf a false==0)= !a∧(bitsOf false b != 0)=b:=by cases a<;>cases b<;>decide
theorem afd{O:U}{n:St}{q q':Nat}{s:bh}{base pre:Int}{ok a b:Bool}{ds:List Int}(hb:iw base)(h:Np O n q s)(hf:Nf ok 0 base pre a b s)(hc:Cl O q ds q')(hd:∀x∈ds,gZ base x=true)(hq:s.seen=true->l_ (gZ base) O q')(hs:s.seen=false->ds=[]):
 Np O n q' ((IN O s).get bP)∧Nf ok (if s.seen=true then 1 else 0) base pre (a||bL ds) (b||eA ds) ((IN O s).get bP)∧(s.seen=false->((IN O s).get bP).inv=s.inv):=by
 obtain⟨f1,f2,f3,f4,f5⟩:=hf
 cases hsn:s.seen with
 |false=>
  obtain rfl:=hs hsn
  cases hc
  have e:(IN O s).get bP=s:=by simp[IN,af.get,hsn]
  rw[e]
  exact⟨h,⟨f1,by simp[f2],f3,f4,by simp[bL,eA,f5]⟩,fun _=>rfl⟩
 |true=>
  obtain⟨aO,jl,k1,k2,k3,k4⟩:=BG hb hc s.inv hd (hq hsn) h.Xj
  have e:(IN O s).get bP={s with st:=aO,kind:=1,ky:=nv s.ky (bitsOf (bL ds) (eA ds)),inv:=jl}:=by simp[IN,af.get,hsn,f3,k1]
  rw[e]
  exact⟨h.on k2 k3 rfl rfl,⟨f1,by simp,f3,f4,by rw[f5,tG]⟩,fun h=>by cases h⟩
theorem afe{O:U}{n:St}{q:Nat}{s:bh}{kind base pre:Int}{ok a b:Bool}(h:Np O n q s)(hf:Nf ok kind base pre a b s):
 Np O n q ((EW s).get bP)∧Nf (ok&&a) kind base pre a b ((EW s).get bP)∧((EW s).get bP).inv=s.inv:=by
 obtain⟨f1,f2,f3,f4,f5⟩:=hf
 have e0:(nW s.ky 1==0)= !a:=by rw[f5,and_one];exact(De a b).1
 cases a with
 |true=>
  have e:(EW s).get bP=s:=by simp[EW,af.get,e0]
  rw[e]
  exact⟨h,⟨by simp[f1],f2,f3,f4,f5⟩,rfl⟩
 |false=>
  cases hk:s.ok with
  |false=>
   have e:(EW s).get bP=s:=by simp[EW,af.get,e0,hk]
   rw[e]
   exact⟨h,⟨by simp[hk],f2,f3,f4,f5⟩,rfl⟩
  |true=>
   have e:(EW s).get bP={s with st:=error yA s.st,ok:=false}:=by simp[EW,af.get,e0,hk]
   rw[e]
   exact⟨h.err yA rfl rfl,⟨by simp,f2,f3,f4,f5⟩,rfl⟩
theorem N3{O:U}{n:St}{q:Nat}{s:bh}{kind base pre:Int}{ok a b:Bool}(e:Int)(h:Np O n q s)(hf:Nf true kind base pre a b s):
 Np O n q (fe (s,e))∧Nf (!(decide (e=101∧pre≠0∧pre≠48))&& !(decide (e=112∧pre≠120))) kind base pre a b (fe (s,e))∧(fe (s,e)).st.ch=s.st.ch∧(fe (s,e)).inv=s.inv:=by
 obtain⟨f1,f2,f3,rfl,f5⟩:=hf
 by_cases h1:e=101∧s.pre≠0∧s.pre≠48
 ·have eT:fe (s,e)={s with st:=error yw s.st,ok:=false}:=if_pos h1
  rw[eT]
  exact⟨h.err yw rfl rfl,⟨by simp[h1],f2,f3,rfl,f5⟩,rfl,rfl⟩
 ·by_cases h2:e=112∧s.pre≠120
  ·have eT:fe (s,e)={s with st:=error yx s.st,ok:=false}:=(if_neg h1).trans (if_pos h2)
   rw[eT]
   exact⟨h.err yx rfl rfl,⟨by simp[h2],f2,f3,rfl,f5⟩,rfl,rfl⟩
  ·have eT:fe (s,e)=s:=(if_neg h1).trans (if_neg h2)
   rw[eT]
   exact⟨h,⟨by rw[f1];simp[h1,h2],f2,f3,rfl,f5⟩,rfl,rfl⟩
theorem BH{O:U}{n x:St}{q q0 q':Nat}{s:bh}{kind base pre:Int}{ok a b:Bool}{ds:List Int}(h:Np O n q0 s)(hf:Nf ok kind base pre a b s)(hx:rS O q x)(hs:jC O s.st x)(hc:Cl O q ds q')(hd:∀x∈ds,fS x=true)(hq:l_ fS O q'):
 Np O n q' ((dW O s x).get bP)∧Nf (ok&&bL ds) 1 base pre (bL ds) (b||eA ds) ((dW O s x).get bP)∧((dW O s x).get bP).inv=s.inv:=by
 obtain⟨f1,f2,f3,f4,f5⟩:=hf
 obtain⟨aO,k1,k2,k3⟩:=Xh hc false false hd hq hx
 have:bitsOf false false=0:=rfl
 rw[this]at k1
 simp only[Bool.false_or]at k1
 have e1:nv (cP O (x,0)).2 (nW s.ky 2)=bitsOf (bL ds) (b||eA ds):=by rw[k1,f5,KU,tG,Bool.or_false,Bool.or_comm]
 have e0:(nW (nv (cP O (x,0)).2 (nW s.ky 2)) 1==0)= !(bL ds):=by rw[e1,and_one];exact(De _ b).1
 have oD:rS O q' (cP O (x,0)).1:=by rw[k1];exact k2
 have jt:jC O s.st (cP O (x,0)).1:=by rw[k1];exact hs.trans k3
 have key:Np O n q' {s with st:=(cP O (x,0)).1,kind:=1,ky:=nv (cP O (x,0)).2 (nW s.ky 2)}:=h.on oD jt rfl rfl
 cases hg:bL ds with
 |true=>
  rw[hg]at e0
  have eT:(dW O s x).get bP={s with st:=(cP O (x,0)).1,kind:=1,ky:=nv (cP O (x,0)).2 (nW s.ky 2)}:=by simp[dW,af.get,e0]
  rw[eT]
  exact⟨key,⟨by simp[f1],rfl,f3,f4,by rw[←hg];exact e1⟩,rfl⟩
 |false=>
  rw[hg]at e0
  cases hk:s.ok with
  |false=>
   have eT:(dW O s x).get bP={s with st:=(cP O (x,0)).1,kind:=1,ky:=nv (cP O (x,0)).2 (nW s.ky 2)}:=by simp[dW,af.get,e0,hk]
   rw[eT]
   exact⟨key,⟨by simp[hk],rfl,f3,f4,by rw[←hg];exact e1⟩,rfl⟩
  |true=>
   have eT:(dW O s x).get bP={s with st:=error CW (cP O (x,0)).1,ok:=false,kind:=1,ky:=nv (cP O (x,0)).2 (nW s.ky 2)}:=by simp[dW,af.get,e0,hk]
   rw[eT]
   exact⟨key.err CW rfl rfl,⟨by simp,rfl,f3,f4,by rw[←hg];exact e1⟩,rfl⟩
theorem zc{O:U}{n:St}{q q':Nat}{s:bh}{kind base pre:Int}{ok a b:Bool}{e:Int}{sg ds:List Int}(h:Np O n q s)(hf:Nf ok kind base pre a b s)(he:bA O q e 1)(ah7:e≠10)(hsg:sg=[]∨sg=[43]∨sg=[45])
 (hc:Cl O (q+1) (sg++ds) q')(hd:∀x∈ds,fS x=true)(hq:l_ fS O q')(Pt:sg=[]->ds=[]->∀r w,bA O q' r w->r≠43∧r≠45):
 Np O n q' ((dz O s).get bP)∧Nf (ok&&bL ds) 1 base pre (bL ds) (b||eA ds) ((dz O s).get bP)∧((dz O s).get bP).inv=s.inv:=by
 obtain⟨e1,h1,s1⟩:=h.Xj.next he ah7 (hc.jq hq.1)
 have sgn:∀c:Int,c=43∨c=45->Cl O (q+1) (c::ds) q'->Np O n q' ((dW O s (aa O (aa O s.st))).get bP)∧Nf (ok&&bL ds) 1 base pre (bL ds) (b||eA ds) ((dW O s (aa O (aa O s.st))).get bP)∧((dW O s (aa O (aa O s.st))).get bP).inv=s.inv∧(aa O s.st).ch=c:=fun c hcc hc=>by
  cases hc with
  |cons k1 k2=>
   obtain⟨_,rfl⟩:=k1.byte (by omega)
   obtain⟨e2,h2,s2⟩:=h1.next k1 (by omega) (k2.jq hq.1)
   obtain⟨g1,g2,g3⟩:=BH h hf h2 (s1.trans s2) k2 hd hq
   exact⟨g1,g2,g3,e2⟩
 unfold dz
 simp only[af.get]
 rcases hsg with rfl|rfl|rfl
 ·have oL:(aa O s.st).ch≠43∧(aa O s.st).ch≠45:=by
   cases ds with
   |nil=>
    cases hc
    rcases h1.gQ.ch with k|⟨_,k,_⟩
    ·exact Pt rfl rfl _ _ k
    ·omega
   |cons d ds=>
    cases hc with
    |cons k1 k2=>
     have:=l9 (hd d (by simp))
     have:=(h1.gQ.of k1).1
     omega
  have n1:((aa O s.st).ch==43)=false:=by simpa using oL.1
  have n2:((aa O s.st).ch==45)=false:=by simpa using oL.2
  simp only[n1,n2,Bool.false_eq_true,if_false]
  exact BH h hf h1 s1 hc hd hq
 ·obtain⟨g1,g2,g3,g4⟩:=sgn 43 (.inl rfl) hc
  have n1:((aa O s.st).ch==43)=true:=by simpa using g4
  simp only[n1,if_true]
  exact⟨g1,g2,g3⟩
 ·obtain⟨g1,g2,g3,g4⟩:=sgn 45 (.inr rfl) hc
  have n1:((aa O s.st).ch==43)=false:=by rw[g4];rfl
  have n2:((aa O s.st).ch==45)=true:=by simpa using g4
  simp only[n1,n2,Bool.false_eq_true,if_false,if_true]
  exact⟨g1,g2,g3⟩
abbrev kB:=Option (Int×List Int×List Int)
def b9:kB->List Int
 |none=>[]
 |some (e,sg,ds)=>e::(sg++ds)
def j_(pre:Int)(pt:Bool):kB->Bool
 |none=> !(decide (pre=120)&&pt)
 |some (e,_,ds)=> !(decide (ay e=101∧pre≠0∧pre≠48))&& !(decide (ay e=112∧pre≠120))&&bL ds
def zd:kB->Bool
 |none=>false
 |some (_,_,ds)=>eA ds
def ze:kB->Prop
 |none=>True
 |some (e,sg,ds)=>(e=101∨e=69∨e=112∨e=80)∧(sg=[]∨sg=[43]∨sg=[45])∧∀x∈ds,fS x=true
structure mC(O:U)(q:Nat)(ex:kB)(im:Bool):Prop where
 cl:iP O q
 dec:∀r w,bA O q r w->fS r=false∧tH r=false∧ay r≠101∧ay r≠112∧r≠105∧r≠46∧ay r≠120∧ay r≠111∧ay r≠98
 sgn:∀e,ex=some (e,[],[])->im=false->∀r w,bA O q r w->r≠43∧r≠45
theorem Sq{O:U}{n:St}{q:Nat}{s:bh}{base pre:Int}{ok a b pt:Bool}(h:Np O n q s)(hf:Nf ok (if pt=true then 1 else 0) base pre a b s):
 Np O n q ((iX s).get bP)∧Nf (ok&& !(decide (pre=120)&&pt)) (if pt=true then 1 else 0) base pre a b ((iX s).get bP)∧((iX s).get bP).inv=s.inv:=by
 obtain⟨f1,f2,f3,rfl,f5⟩:=hf
 have same:(iX s).get bP=s->(ok&& !(decide (s.pre=120)&&pt))=ok->Np O n q ((iX s).get bP)∧Nf (ok&& !(decide (s.pre=120)&&pt)) (if pt=true then 1 else 0) base s.pre a b ((iX s).get bP)∧((iX s).get bP).inv=s.inv:=fun e1 e2=>by
  rw[e1,e2]
  exact⟨h,⟨f1,f2,f3,rfl,f5⟩,rfl⟩
 by_cases hp:s.pre=120
 ·cases pt with
  |true=>
   have f2':s.kind=1:=f2
   cases hk:s.ok with
   |true=>
    have eT:(iX s).get bP={s with st:=error wX s.st,ok:=false}:=by simp[iX,af.get,hp,f2',hk]
    rw[eT]
    exact⟨h.err wX rfl rfl,⟨by simp[hp],f2,f3,rfl,f5⟩,rfl⟩
   |false=>exact same (by simp[iX,af.get,hp,f2',hk]) (by rw[←f1,hk];rfl)
  |false=>
   have f2':s.kind=0:=f2
   exact same (by simp[iX,af.get,hp,f2']) (by simp)
 ·exact same (by simp[iX,af.get,hp]) (by simp[hp])
theorem Xk:((List.range 128).all fun n=>(decide (ay (n:Nat)=101)==decide (n=101∨n=69))&&(decide (ay (n:Nat)=112)==decide (n=112∨n=80))&&(decide (ay (n:Nat)=120)==decide (n=120∨n=88))&&(decide (ay (n:Nat)=111)==decide (n=111∨n=79))&&(decide (ay (n:Nat)=98)==decide (n=98∨n=66)))=true:=by kernel_rfl
theorem py{c:Int}(h0:0<=c)(h1:c<=1114111):(ay c=101↔c=101∨c=69)∧(ay c=112↔c=112∨c=80)∧(ay c=120↔c=120∨c=88)∧(ay c=111↔c=111∨c=79)∧(ay c=98↔c=98∨c=66):=by
 by_cases h:c<128
 ·have:=List.all_eq_true.1 Xk c.toNat (List.mem_range.2 (by omega))
  rw[show((c.toNat:Nat):Int)=c by omega]at this
  simp only[Bool.and_eq_true,beq_iff_eq,decide_eq_decide]at this
  obtain⟨⟨⟨⟨t1,t2⟩,t3⟩,t4⟩,t5⟩:=this
  rw[t1,t2,t3,t4,t5]
  omega
 ·have:=p7 (c:=c) (by omega) h1
  omega
theorem p9:ay (-1)≠101∧ay (-1)≠112∧ay (-1)≠120∧ay (-1)≠111∧ay (-1)≠98:=by decide+kernel
theorem rS.head{O:U}{q q':Nat}{st:St}{c:Int}{cs:List Int}(h:rS O q st)(hc:Cl O q (c::cs) q'):st.ch=c∧1<=c∧c<=1114111:=by
 cases hc with
 |cons k1 k2=>exact⟨(h.gQ.of k1).1,k1.w.2.2.1,k1.w.2.2.2⟩
theorem rS.fin{O:U}{q:Nat}{st:St}{ex:kB}{im:Bool}(h:rS O q st)(he:mC O q ex im):fS st.ch=false∧tH st.ch=false∧ay st.ch≠101∧ay st.ch≠112∧st.ch≠105∧st.ch≠46∧ay st.ch≠120∧ay st.ch≠111∧ay st.ch≠98:=by
 rcases h.gQ.ch with k|⟨_,k,_⟩
 ·exact he.dec _ _ k
 ·rw[k]
  exact⟨by decide,by decide,p9.1,p9.2.1,by decide,by decide,p9.2.2.1,p9.2.2.2.1,p9.2.2.2.2⟩
def gd(im:Bool):List Int:=if im=true then [105]else []
theorem aff{O:U}{n:St}{q q2:Nat}{s:bh}{base pre:Int}{ok a b pt:Bool}{ex:kB}{im:Bool}(h:Np O n q s)(hf:Nf ok (if pt=true then 1 else 0) base pre a b s)(hw:ze ex)(hc:Cl O q (b9 ex++gd im) q2)(he:mC O q2 ex im):
 ∃q',Cl O q' (gd im) q2∧Np O n q' ((DS O True s).get bP)∧∃a',Nf (ok&&j_ pre pt ex) (if pt=true∨ex.isSome=true then 1 else 0) base pre a' (b||zd ex) ((DS O True s).get bP)∧((DS O True s).get bP).inv=s.inv:=by
 have kE:=h.Xj
 cases ex with
 |none=>
  have oL:ay s.st.ch≠101∧ay s.st.ch≠112:=by
   cases im with
   |true=>rw[(kE.head hc).1];decide+kernel
   |false=>
    cases hc
    have:=kE.fin he
    exact⟨this.2.2.1,this.2.2.2.1⟩
  have n1:(ay s.st.ch==101)=false:=by simpa using oL.1
  have n2:(ay s.st.ch==112)=false:=by simpa using oL.2
  have e:(DS O True s).get bP=(iX s).get bP:=by simp only[DS,af.get,n1,n2,Bool.false_eq_true,if_false]
  rw[e]
  obtain⟨g1,g2,g3⟩:=Sq h hf
  refine⟨q,hc,g1,a,?_,g3⟩
  simpa[j_,zd] using g2
 |some t=>
  obtain⟨e,sg,ds⟩:=t
  obtain⟨w1,w2,w3⟩:=hw
  obtain⟨h1,h2,h3⟩:=kE.head (c:=e) hc
  have F5:=py (c:=e) (by omega) (by omega)
  cases hc with
  |@cons _ w _ _ _ k1 k2=>
  obtain⟨_,rfl⟩:=k1.byte (by omega)
  obtain⟨m,m1,m2⟩:=Cl.split (us:=sg++ds) (bs:=gd im) k2
  have oJ:l_ fS O m:=by
   cases im with
   |true=>
    cases m2 with
    |cons j1 j2=>exact⟨.inl ⟨_,_,j1⟩,fun r w hr=>by rw[(hr.uniq j1).1];decide⟩
   |false=>
    cases m2
    exact⟨he.cl,fun r w hr=>(he.dec r w hr).1⟩
  have Pt:sg=[]->ds=[]->∀r w,bA O m r w->r≠43∧r≠45:=fun z1 z2 r w hr=>by
   subst z1 z2
   cases im with
   |true=>
    cases m2 with
    |cons j1 j2=>have:=(hr.uniq j1).1;omega
   |false=>
    cases m2
    exact he.sgn e rfl rfl r w hr
  refine⟨m,m2,?_⟩
  have hl:ay e=101∨ay e=112:=by
   rcases w1 with w|w|w|w
   ·exact .inl (F5.1.2 (.inl w))
   ·exact .inl (F5.1.2 (.inr w))
   ·exact .inr (F5.2.1.2 (.inl w))
   ·exact .inr (F5.2.1.2 (.inr w))
  have eT:(DS O True s).get bP=if s.ok=true then(dz O (fe (s,ay e))).get bP else(dz O s).get bP:=by
   rcases hl with hl|hl
   ·simp only[DS,af.get,h1,hl,beq_self_eq_true,if_true]
   ·simp only[DS,af.get,h1,hl,beq_self_eq_true,if_true,show((112:Int)==101)=false from rfl,Bool.false_eq_true,if_false]
  rw[eT]
  have afg:(if pt=true∨(some (e,sg,ds):kB).isSome=true then(1:Int)else 0)=1:=by simp
  rw[afg]
  cases hk:s.ok with
  |true=>
   rw[if_pos rfl]
   have ia:ok=true:=by rw[←hf.ok];exact hk
   subst ia
   obtain⟨g1,g2,g3,g4⟩:=N3 (ok:=true) (ay e) h hf
   obtain⟨i1,i2,i3⟩:=zc g1 g2 k1 (by omega) w2 m1 w3 oJ Pt
   refine⟨i1,bL ds,?_,by rw[i3,g4]⟩
   simpa[j_,zd,Bool.and_assoc] using i2
  |false=>
   have ia:ok=false:=by rw[←hf.ok];exact hk
   subst ia
   rw[if_neg (by simp)]
   obtain⟨i1,i2,i3⟩:=zc h hf k1 (by omega) w2 m1 w3 oJ Pt
   exact⟨i1,bL ds,by simpa[zd] using i2,i3⟩
theorem ab4{O:U}{n:St}{q q2:Nat}{s:bh}{kind base pre:Int}{ok a b:Bool}{ex:kB}{im:Bool}(h:Np O n q s)(hf:Nf ok kind base pre a b s)(hc:Cl O q (gd im) q2)(he:mC O q2 ex im):
 Np O n q2 ((q_ O s).get bP)∧Nf ok (if im=true then 2 else kind) base pre a b ((q_ O s).get bP)∧((q_ O s).get bP).inv=s.inv:=by
 obtain⟨f1,f2,f3,f4,f5⟩:=hf
 cases im with
 |true=>
  cases hc with
  |cons k1 k2=>
   cases k2
   obtain⟨_,rfl⟩:=k1.byte (by decide)
   obtain⟨e,g1,g2⟩:=h.Xj.next k1 (by decide) he.cl
   have eT:(q_ O s).get bP={s with st:=aa O s.st,kind:=2}:=by simp[q_,af.get,e]
   rw[eT]
   exact⟨h.on g1 g2 rfl rfl,⟨f1,by simp,f3,f4,f5⟩,rfl⟩
 |false=>
  cases hc
  have:=h.Xj.fin he
  have eT:(q_ O s).get bP=s:=by simp[q_,af.get,this.2.2.2.2.1]
  rw[eT]
  exact⟨h,⟨f1,by simp[f2],f3,f4,f5⟩,rfl⟩
theorem ab5{O:U}{n:St}{q q2:Nat}{s:bh}{kind base pre:Int}{ok a b:Bool}(h:Np O n q2 s)(hf:Nf ok kind base pre a b s)(hI:gf O n s)(hb:n.b=some q):
 ∃t:bh,(Ha ((EY O s).get bP)).get bP=t∧Std O q2 t.st∧t.ok=(ok&& !(decide (kind=0)&&decide (0<=s.inv))&& !(b&&decide (0<=bC (O.extract q q2))))∧
  (t.ok=true->t.st.ab=n.ab)∧(t.ok=false->n.ab.length<t.st.ab.length)∧t.st.lit=O.extract q q2∧t.st.kind=kind∧t.st.tok=3∧t.st.au=true∧t.st.mode=n.mode∧t.st.line=n.line∧t.st.aM=n.aM:=by
 obtain⟨f1,f2,f3,f4,f5⟩:=hf
 have hk:=hI.on.bm
 have kk:fG O s.st=O.extract q q2:=by
  unfold fG
  rw[hI.on.b,hb,h.Xj.gQ.cut];rfl
 have qH:s.st.mode=n.mode:=by rw[hk]
 have F6:s.st.line=n.line:=by rw[hk]
 have V8:s.st.aM=n.aM:=by rw[hk]
 have ZF:(bJ O s.kind s.ok s.st).lit=O.extract q q2:=kk
 obtain⟨u,hu,u1,u2,u3,u4,u5,u6⟩:∃u:bh,(EY O s).get bP=u∧u.ok=(ok&& !(decide (kind=0)&&decide (0<=s.inv)))∧u.ky=bitsOf a b∧Std O q2 u.st∧(u.ok=true->u.st.ab=n.ab)∧(u.ok=false->n.ab.length<u.st.ab.length)∧
  (u.st.lit=O.extract q q2∧u.st.kind=kind∧u.st.tok=3∧u.st.au=true∧u.st.mode=n.mode∧u.st.line=n.line∧u.st.aM=n.aM):=by
  have plain:(EY O s).get bP={s with st:=bJ O s.kind s.ok s.st}->(ok&& !(decide (kind=0)&&decide (0<=s.inv)))=ok->∃u:bh,(EY O s).get bP=u∧u.ok=(ok&& !(decide (kind=0)&&decide (0<=s.inv)))∧u.ky=bitsOf a b∧Std O q2 u.st∧(u.ok=true->u.st.ab=n.ab)∧(u.ok=false->n.ab.length<u.st.ab.length)∧
   (u.st.lit=O.extract q q2∧u.st.kind=kind∧u.st.tok=3∧u.st.au=true∧u.st.mode=n.mode∧u.st.line=n.line∧u.st.aM=n.aM):=fun e1 e2=>
   ⟨_,e1,by rw[e2];exact f1,f5,h.Xj.gQ.same rfl rfl rfl rfl,h.Dd,h.bad,ZF,f2,rfl,rfl,qH,F6,V8⟩
  by_cases G7:kind=0
  ·by_cases hinv:0<=s.inv
   ·cases ia:s.ok with
    |false=>
     have ho:ok=false:=by rw[←f1];exact ia
     refine plain ?_ (by rw[ho];rfl)
     simp[EY,af.get,f2,G7,hinv,ia]
    |true=>
     have e:(EY O s).get bP={s with st:=bF s.inv Q1 (bJ O s.kind s.ok s.st),ok:=false}:=by simp[EY,af.get,f2,G7,hinv,ia]
     refine⟨_,e,by simp[G7,hinv],f5,h.Xj.gQ.same rfl rfl rfl rfl,fun h=>(by cases h),fun _=> ?_,ZF,f2,rfl,rfl,qH,F6,V8⟩
     show n.ab.length<(s.st.ab++[_]).length
     rw[h.Dd ia];simp
   ·refine plain ?_ (by simp[hinv])
    simp[EY,af.get,f2,G7,hinv]
  ·refine plain ?_ (by simp[G7])
   simp[EY,af.get,f2,G7]
 rw[hu]
 obtain⟨l1,l2,l3,l4,l5,l6,l7⟩:=u6
 have e0:(nW u.ky 2 != 0)=b:=by rw[u2,KU];exact(De a b).2
 have same:(Ha u).get bP=u->(ok&& !(decide (kind=0)&&decide (0<=s.inv))&& !(b&&decide (0<=bC (O.extract q q2))))=u.ok->∃t:bh,(Ha u).get bP=t∧Std O q2 t.st∧t.ok=(ok&& !(decide (kind=0)&&decide (0<=s.inv))&& !(b&&decide (0<=bC (O.extract q q2))))∧
  (t.ok=true->t.st.ab=n.ab)∧(t.ok=false->n.ab.length<t.st.ab.length)∧t.st.lit=O.extract q q2∧t.st.kind=kind∧t.st.tok=3∧t.st.au=true∧t.st.mode=n.mode∧t.st.line=n.line∧t.st.aM=n.aM:=fun e1 e2=>
  ⟨u,e1,u3,e2.symm,u4,u5,l1,l2,l3,l4,l5,l6,l7⟩
 cases b with
 |false=>exact same (by simp[Ha,af.get,e0]) (by rw[u1];simp)
 |true=>
  cases ia:u.ok with
  |false=>exact same (by simp[Ha,af.get,e0,ia]) (by rw[←u1,ia];rfl)
  |true=>
   by_cases hv:0<=bC (O.extract q q2)
   ·have e:(Ha u).get bP={u with st:=bF (bC u.st.lit) Q2 u.st,ok:=false}:=by simp[Ha,af.get,e0,ia,l1,hv]
    refine⟨_,e,u3.same rfl rfl rfl rfl,by simp[hv],fun h=>(by cases h),fun _=> ?_,l1,l2,l3,l4,l5,l6,l7⟩
    show n.ab.length<(u.st.ab++[_]).length
    rw[u4 ia];simp
   ·exact same (by simp[Ha,af.get,e0,ia,l1,hv]) (by rw[←u1,ia];simp[hv])
structure F7(O:U)(n:St)(q q2:Nat)(ok:Bool)(kind:Int)(t:bh):Prop where
 gQ:Std O q2 t.st
 ok:t.ok=ok
 Dd:t.ok=true->t.st.ab=n.ab
 bad:t.ok=false->n.ab.length<t.st.ab.length
 lit:t.st.lit=O.extract q q2
 kind:t.st.kind=kind
 tok:t.st.tok=3
 nl:t.st.au=true
 mode:t.st.mode=n.mode
 lc:t.st.line=n.line∧t.st.aM=n.aM
def d_(pt:Bool)(ex:kB)(im:Bool):Int:=if im=true then 2 else if pt=true∨ex.isSome=true then 1 else 0
theorem vZ{O:U}{n:St}{q q1 q2:Nat}{s1:bh}{base pre:Int}{ok a b pt:Bool}{d2:List Int}{ex:kB}{im:Bool}(hb:iw base)(hI:gf O n s1)(hN:Np O n q1 s1)(hF:Nf ok 0 base pre a b s1)(hse:s1.seen=pt)(wm:n.b=some q)
 (hc:Cl O q1 (d2++(b9 ex++gd im)) q2)(Mx:∀x∈d2,gZ base x=true)(hpt:pt=false->d2=[])(hw:ze ex)(hE:mC O q2 ex im)(hxe:∀e sg ds,ex=some (e,sg,ds)->gZ base e=false):
 ∃t,(dd O True af.ae s1).get bP=t∧F7 O n q q2 (ok&&(a||bL d2)&&j_ pre pt ex&& !(decide (d_ pt ex im=0)&&decide (0<=s1.inv))&& !((b||eA d2||zd ex)&&decide (0<=bC (O.extract q q2)))) (d_ pt ex im) t:=by
 obtain⟨e1,i5⟩:=F3 hI
 obtain⟨m,c1,c2⟩:=Cl.split hc
 have oJ:s1.seen=true->l_ (gZ base) O m:=fun _=>by
  have hu:∀r,(r=105)->gZ base r=false:=fun r hr=>by rcases hb with rfl|rfl|rfl|rfl<;>(subst hr;decide)
  cases ex with
  |some t=>
   obtain⟨e,sg,ds⟩:=t
   have c2:Cl O m (e::(sg++ds++gd im)) q2:=c2
   cases c2 with
   |cons k1 k2=>exact⟨.inl ⟨_,_,k1⟩,fun r w hr=>by rw[(hr.uniq k1).1];exact hxe e sg ds rfl⟩
  |none=>
   cases im with
   |true=>
    cases c2 with
    |cons k1 k2=>exact⟨.inl ⟨_,_,k1⟩,fun r w hr=>by rw[(hr.uniq k1).1];exact hu _ rfl⟩
   |false=>
    cases c2
    refine⟨hE.cl,fun r w hr=> ?_⟩
    have:=hE.dec r w hr
    unfold gZ
    split
    ·exact this.1
    ·exact this.2.1
 obtain⟨n2,f2,v2⟩:=afd hb hN hF c1 Mx oJ (fun h=>hpt (by rw[←hse];exact h))
 rw[hse]at f2 v2
 obtain⟨n3,f3,v3⟩:=afe n2 f2
 obtain⟨m4,c4,n4,a4,f4,v4⟩:=aff n3 f3 hw c2 hE
 obtain⟨n5,f5,v5⟩:=ab4 n4 f4 c4 hE
 obtain⟨t,t0,t1,t2,t3,t4,t5,t6,t7,t8,t9,t10,t11⟩:=ab5 n5 f5 i5 wm
 refine⟨t,e1.trans t0,⟨t1,?_,t3,t4,t5,t6,t7,t8,t9,t10,t11⟩⟩
 rw[t2]
 have hv:decide (d_ pt ex im=0)=true->decide (0<=((q_ O ((DS O True ((EW ((IN O s1).get bP)).get bP)).get bP)).get bP).inv)=decide (0<=s1.inv):=fun h=>by
  have hk:=of_decide_eq_true h
  unfold d_ at hk
  have hp:pt=false:=by
   cases pt with
   |false=>rfl
   |true=>cases im<;>simp at hk
  rw[v5,v4,v3,v2 hp]
 have rW:(if im=true then(2:Int)else if pt=true∨ex.isSome=true then 1 else 0)=d_ pt ex im:=rfl
 rw[rW]
 cases hk:decide (d_ pt ex im=0)with
 |false=>simp
 |true=>rw[hv hk]
def fK(pt:Bool):List Int:=if pt=true then [46]else []
theorem afh{O:U}{n aO:St}{q1 q2:Nat}{base pre d0 jl:Int}{a0 a b pt:Bool}{rest:List Int}(hd0:d0=bitsOf a0 false)(h:rS O q1 aO)(hs:jC O n aO)(hc:Cl O q1 (fK pt++rest) q2)(hq:iP O q2)(oL:pt=false->aO.ch≠46):
 ∃m s,(G_ O base pre d0 (aO,bitsOf a b,jl)).get bP=s∧Cl O m rest q2∧Np O n m s∧Nf (!(pt&&(decide (pre=111)||decide (pre=98)))) 0 base pre (a0||a) b s∧s.inv=jl∧s.seen=pt:=by
 subst hd0
 cases pt with
 |false=>
  have n1:(aO.ch==46)=false:=by simpa using oL rfl
  refine⟨q1,{st:=aO,ok:=true,kind:=0,base:=base,pre:=pre,ky:=nv (bitsOf a0 false) (bitsOf a b),inv:=jl,seen:=false},by simp[G_,af.get,n1],hc,⟨h,fun _=>hs.ab,fun h=>by cases h⟩,⟨by simp,rfl,rfl,rfl,by rw[tG];simp⟩,rfl,rfl⟩
 |true=>
  have hc:Cl O q1 (46::rest) q2:=hc
  cases hc with
  |@cons _ w _ _ _ k1 k2=>
  obtain⟨_,rfl⟩:=k1.byte (by decide)
  obtain⟨e,g1,g2⟩:=h.next k1 (by decide) (k2.jq hq)
  have e2:Std O (q1+1) (aa O (error gn aO))∧(aa O (error gn aO)).ab=(error gn aO).ab:=by
   obtain⟨_,y1,y2⟩:=(h.err gn).next k1 (by decide) (k2.jq hq)
   exact⟨y1.gQ,y2.ab⟩
  have g3:rS O (q1+1) (aa O (error gn aO)):=((h.err gn).next k1 (by decide) (k2.jq hq)).2.1
  have n1:(aO.ch==46)=true:=by simpa using e
  have hm:n.ab.length<(aa O (error gn aO)).ab.length:=by
   rw[e2.2]
   have:=F4 gn aO
   rw[hs.ab]at this
   exact this
  have bad:pre=111∨pre=98->∃m s,(G_ O base pre (bitsOf a0 false) (aO,bitsOf a b,jl)).get bP=s∧Cl O m rest q2∧Np O n m s∧Nf (!(true&&(decide (pre=111)||decide (pre=98)))) 0 base pre (a0||a) b s∧s.inv=jl∧s.seen=true:=fun hp=>by
   refine⟨q1+1,{st:=aa O (error gn aO),ok:=false,kind:=0,base:=base,pre:=pre,ky:=nv (bitsOf a0 false) (bitsOf a b),inv:=jl,seen:=true},?_,k2,⟨g3,fun h=>(by cases h),fun _=>hm⟩,⟨?_,rfl,rfl,rfl,by rw[tG];simp⟩,rfl,rfl⟩
   ·rcases hp with rfl|rfl
    ·simp[G_,af.get,n1]
    ·simp[G_,af.get,n1]
   ·rcases hp with rfl|rfl<;>rfl
  by_cases h1:pre=111
  ·exact bad (.inl h1)
  ·by_cases h2:pre=98
   ·exact bad (.inr h2)
   ·have p1:(pre==111)=false:=by simpa using h1
    have p2:(pre==98)=false:=by simpa using h2
    refine⟨q1+1,{st:=aa O aO,ok:=true,kind:=0,base:=base,pre:=pre,ky:=nv (bitsOf a0 false) (bitsOf a b),inv:=jl,seen:=true},by simp[G_,af.get,n1,p1,p2],k2,⟨g1,fun _=>by show(aa O aO).ab=_;rw[g2.ab,hs.ab],fun h=>by cases h⟩,⟨by simp[h1,h2],rfl,rfl,rfl,by rw[tG];simp⟩,rfl,rfl⟩
structure cI where
 pre:Int
 pc:Int
 d1:List Int
 pt:Bool
 d2:List Int
 ex:kB
 im:Bool
def cI.base(P:cI):Int:=if P.pre=0 then 10 else if P.pre=120 then 16 else if P.pre=98 then 2 else 8
def cI.head(P:cI):List Int:=if P.pre=0 then []else if P.pre=48 then [48]else [48,P.pc]
def cI.tail(P:cI):List Int:=fK P.pt++(P.d2++(b9 P.ex++gd P.im))
def cI.chars(P:cI):List Int:=P.head++(P.d1++P.tail)
structure cI.Wf(P:cI):Prop where
 pre:(P.pre=0∧∃c t,P.d1=c::t∧49<=c∧c<=57)∨P.pre=48∨(P.pre=120∧(P.pc=120∨P.pc=88))∨(P.pre=111∧(P.pc=111∨P.pc=79))∨(P.pre=98∧(P.pc=98∨P.pc=66))
 d1:∀x∈P.d1,gZ P.base x=true
 d2:∀x∈P.d2,gZ P.base x=true
 pt:P.pt=false->P.d2=[]
 ex:ze P.ex
 xe:∀e sg ds,P.ex=some (e,sg,ds)->gZ P.base e=false
def cI.kind(P:cI):Int:=d_ P.pt P.ex P.im
def cI.ok(P:cI)(lit:U):Bool:=
 !(P.pt&&(decide (P.pre=111)||decide (P.pre=98)))&&(decide (P.pre=48)||bL P.d1||bL P.d2)&&j_ P.pre P.pt P.ex&& !(decide (P.kind=0)&&(decide (P.base<=10)&&jr (48+P.base) P.d1))&& !((eA P.d1||eA P.d2||zd P.ex)&&decide (0<=bC lit))
theorem cI.Wf.iw{P:cI}(h:P.Wf):iw P.base:=by
 unfold cI.base Sc.iw
 rcases h.pre with⟨h,_⟩|h|⟨h,_⟩|⟨h,_⟩|⟨h,_⟩<;>rw[h]<;>decide
theorem Sr{O:U}{P:cI}(hw:P.Wf){m q2:Nat}(h:Cl O m P.tail q2)(he:mC O q2 P.ex P.im):l_ (gZ P.base) O m∧∀st,Std O m st->(P.pt=false->st.ch≠46)∧ay st.ch≠120∧ay st.ch≠111∧ay st.ch≠98:=by
 have hb:=hw.iw
 have hu:∀r,r=105∨r=46->gZ P.base r=false:=fun r hr=>by
  rcases hb with e|e|e|e<;>rw[e]<;>(rcases hr with rfl|rfl<;>decide)
 have fin:Cl O m [] q2->l_ (gZ P.base) O m∧∀st,Std O m st->(P.pt=false->st.ch≠46)∧ay st.ch≠120∧ay st.ch≠111∧ay st.ch≠98:=fun h=>by
  cases h
  refine⟨⟨he.cl,fun r w hr=> ?_⟩,fun st bn=> ?_⟩
  ·have:=he.dec r w hr
   unfold gZ
   split
   ·exact this.1
   ·exact this.2.1
  ·rcases bn.ch with k|⟨_,k,_⟩
   ·have:=he.dec _ _ k
    exact⟨fun _=>this.2.2.2.2.2.1,this.2.2.2.2.2.2⟩
   ·rw[k]
    exact⟨fun _=>by decide,p9.2.2⟩
 have one:∀(c:Int) (t:List Int),gZ P.base c=false->ay c≠120∧ay c≠111∧ay c≠98->(P.pt=false->c≠46)->Cl O m (c::t) q2->l_ (gZ P.base) O m∧∀st,Std O m st->(P.pt=false->st.ch≠46)∧ay st.ch≠120∧ay st.ch≠111∧ay st.ch≠98:=fun c t h1 h2 h3 h=>by
  cases h with
  |cons k1 k2=>
   refine⟨⟨.inl ⟨_,_,k1⟩,fun r w hr=>by rw[(hr.uniq k1).1];exact h1⟩,fun st bn=> ?_⟩
   rw[(bn.of k1).1]
   exact⟨h3,h2⟩
 unfold cI.tail at h
 cases hp:P.pt with
 |true=>
  rw[hp]at h one
  exact one 46 _ (hu 46 (.inr rfl)) (by decide+kernel) (fun h=>by cases h) h
 |false=>
  rw[hp,hw.pt hp]at h
  rw[hp]at one fin
  have h:Cl O m (b9 P.ex++gd P.im) q2:=h
  cases hx:P.ex with
  |some t=>
   obtain⟨e,sg,ds⟩:=t
   rw[hx]at h
   have hwx:=hw.ex
   rw[hx]at hwx
   have h:Cl O m (e::(sg++ds++gd P.im)) q2:=h
   obtain⟨w1,_,_⟩:=hwx
   refine one e _ (hw.xe e sg ds hx) ?_ (fun _=>by omega) h
   rcases w1 with rfl|rfl|rfl|rfl<;>decide+kernel
  |none=>
   rw[hx]at h
   cases hi:P.im with
   |true=>
    rw[hi]at h
    exact one 105 _ (hu 105 (.inl rfl)) (by decide+kernel) (fun _=>by decide) h
   |false=>
    rw[hi]at h
    exact fin h
theorem ab7{O:U}{n:St}{q m0:Nat}{c:Int}(hn:rS O q n)(c0:Cl O q [48,c] m0)(ie:iP O m0)(hc:60<c∧c<128):(n.ch==48)=true∧(aa O n).ch=c∧rS O m0 (aa O (aa O n))∧jC O n (aa O (aa O n))∧
 ((ay c=101↔c=101∨c=69)∧(ay c=112↔c=112∨c=80)∧(ay c=120↔c=120∨c=88)∧(ay c=111↔c=111∨c=79)∧(ay c=98↔c=98∨c=66)):=by
 cases c0 with
 |@cons _ w _ _ _ k1 k2=>
 cases k2 with
 |@cons _ w2 _ _ _ k3 k4=>
 cases k4
 obtain⟨_,rfl⟩:=k1.byte (by decide)
 obtain⟨_,rfl⟩:=k3.byte (by omega)
 obtain⟨e,g1,g2⟩:=hn.next k1 (by decide) (.inl ⟨_,_,k3⟩)
 obtain⟨e',g3,g4⟩:=g1.next k3 (by omega) ie
 exact⟨by simpa using e,e',g3,g2.trans g4,py (by omega) (by omega)⟩
theorem Xl{O:U}{n:St}{q q2:Nat}{P:cI}(hw:P.Wf)(hn:rS O q n)(hb:n.b=some q)(hc:Cl O q P.chars q2)(he:mC O q2 P.ex P.im):F7 O n q q2 (P.ok (O.extract q q2)) P.kind (mz O false n):=by
 have cN:=hw.iw
 have Ss:=he.cl
 unfold cI.chars at hc
 obtain⟨m0,c0,c1⟩:=Cl.split hc
 obtain⟨m1,c2,c3⟩:=Cl.split c1
 obtain⟨tE,tS⟩:=Sr hw c3 he
 have first:∃(r:St×Int×Int) (d0:Int) (wY:St),(uE O n).get bP=(G_ O P.base P.pre d0 r).get bP∧r=bY O P.base wY (-1)∧d0=bitsOf (decide (P.pre=48)) false∧rS O m0 wY∧jC O n wY:=by
  have behind:P.pre=48->∀st,Std O m0 st->ay st.ch≠120∧ay st.ch≠111∧ay st.ch≠98:=fun hp st bn=>by
   cases hd:P.d1 with
   |nil=>
    rw[hd]at c2
    cases c2
    exact(tS st bn).2
   |cons x t=>
    rw[hd]at c2
    cases c2 with
    |cons k1 k2=>
     have hx:=hw.d1 x (by rw[hd];simp)
     have e8:P.base=8:=by unfold cI.base;rw[hp];decide
     rw[e8]at hx
     have hx:fS x=true:=hx
     have:=l9 hx
     have hl:=py (c:=x) (by omega) (by omega)
     rw[(bn.of k1).1]
     omega
  rcases hw.pre with⟨hp,c,t,hd,h49,h57⟩|hp|⟨hp,hpc⟩|⟨hp,hpc⟩|⟨hp,hpc⟩
  ·have ch:P.head=[]:=by unfold cI.head;rw[if_pos hp]
   rw[ch]at c0
   cases c0
   have kE:n.ch≠48:=by
    rw[hd]at c2
    cases c2 with
    |cons k1 k2=>rw[(hn.gQ.of k1).1];omega
   have Xm:(n.ch==48)=false:=by simpa using kE
   have eb:P.base=10:=by unfold cI.base;rw[if_pos hp]
   refine⟨_,0,n,?_,rfl,by rw[hp];rfl,hn,jC.refl _ _⟩
   simp only[uE,af.get,Xm,Bool.false_eq_true,if_false,eb,hp]
  ·have ch:P.head=[48]:=by unfold cI.head;rw[hp];rfl
   rw[ch]at c0
   cases c0 with
   |@cons _ w _ _ _ k1 k2=>
   cases k2
   obtain⟨_,rfl⟩:=k1.byte (by decide)
   obtain⟨e,g1,g2⟩:=hn.next k1 (by decide) (c1.jq Ss)
   obtain⟨b1,b2,b3⟩:=behind hp _ g1.gQ
   have Xm:(n.ch==48)=true:=by simpa using e
   have x1:(ay (aa O n).ch==120)=false:=by simpa using b1
   have x2:(ay (aa O n).ch==111)=false:=by simpa using b2
   have x3:(ay (aa O n).ch==98)=false:=by simpa using b3
   have eb:P.base=8:=by unfold cI.base;rw[hp];decide
   refine⟨_,1,aa O n,?_,rfl,by rw[hp];rfl,g1,g2⟩
   simp only[uE,af.get,Xm,x1,x2,x3,Bool.false_eq_true,if_false,if_true,eb,hp]
  ·obtain⟨Xm,e',g3,g4,hl⟩:=ab7 hn (by rw[←show P.head=[48,P.pc]by unfold cI.head;rw[hp];rfl];exact c0) (c1.jq Ss) (by omega)
   refine⟨_,0,aa O (aa O n),?_,rfl,(by rw[hp];rfl),g3,g4⟩
   have x1:(ay (aa O n).ch==120)=true:=by rw[e'];simpa using hl.2.2.1.2 hpc
   have eb:P.base=16:=by unfold cI.base;rw[hp];decide
   simp only[uE,af.get,Xm,x1,if_true,eb,hp]
  ·obtain⟨Xm,e',g3,g4,hl⟩:=ab7 hn (by rw[←show P.head=[48,P.pc]by unfold cI.head;rw[hp];rfl];exact c0) (c1.jq Ss) (by omega)
   refine⟨_,0,aa O (aa O n),?_,rfl,(by rw[hp];rfl),g3,g4⟩
   have x0:=hl.2.2.2.1.2 hpc
   have x1:(ay (aa O n).ch==120)=false:=by rw[e',x0];rfl
   have x2:(ay (aa O n).ch==111)=true:=by rw[e',x0];rfl
   have eb:P.base=8:=by unfold cI.base;rw[hp];decide
   simp only[uE,af.get,Xm,x1,x2,Bool.false_eq_true,if_false,if_true,eb,hp]
  ·obtain⟨Xm,e',g3,g4,hl⟩:=ab7 hn (by rw[←show P.head=[48,P.pc]by unfold cI.head;rw[hp];rfl];exact c0) (c1.jq Ss) (by omega)
   refine⟨_,0,aa O (aa O n),?_,rfl,(by rw[hp];rfl),g3,g4⟩
   have x0:=hl.2.2.2.2.2 hpc
   have x1:(ay (aa O n).ch==120)=false:=by rw[e',x0];rfl
   have x2:(ay (aa O n).ch==111)=false:=by rw[e',x0];rfl
   have x3:(ay (aa O n).ch==98)=true:=by rw[e',x0];rfl
   have eb:P.base=2:=by unfold cI.base;rw[hp];decide
   simp only[uE,af.get,Xm,x1,x2,x3,Bool.false_eq_true,if_false,if_true,eb,hp]
 have gI:n.ch≠10:=by
  rcases hw.pre with⟨hp,c,t,hd,h49,h57⟩|hp
  ·have ch:P.head=[]:=by unfold cI.head;rw[if_pos hp]
   rw[ch]at c0
   cases c0
   rw[hd]at c2
   cases c2 with
   |cons k1 k2=>rw[(hn.gQ.of k1).1];omega
  ·have ch:∃t,P.head=48::t:=by
    unfold cI.head
    rcases hp with hp|⟨hp,_⟩|⟨hp,_⟩|⟨hp,_⟩<;>rw[hp]<;>exact⟨_,rfl⟩
   obtain⟨t,ch⟩:=ch
   rw[ch]at c0
   cases c0 with
   |cons k1 k2=>rw[(hn.gQ.of k1).1];decide
 have afj:=pe hn.off gI
 have hI:=dI (d:=bP) afj
 obtain⟨r,d0,wY,f1,f2,f3,f4,f5⟩:=first
 obtain⟨st2,inv2,k1,k2,k3,k4⟩:=BG cN c2 (-1) hw.d1 tE f4
 rw[f2,k1]at f1
 obtain⟨m2,s,j1,j2,j3,j4,j5,j6⟩:=afh (n:=n) (base:=P.base) (pre:=P.pre) (d0:=d0) (jl:=inv2) (a0:=decide (P.pre=48)) (a:=bL P.d1) (b:=eA P.d1) (pt:=P.pt) f3 k2 (f5.trans k3) c3 Ss (fun h=>(tS st2 k2.gQ).1 h)
 rw[j1]at f1
 rw[f1]at hI
 obtain⟨t,t1,t2⟩:=vZ cN hI j3 j4 j6 hb j2 hw.d2 hw.pt hw.ex he hw.xe
 have e:mz O false n=t:=by
  unfold mz dr
  rw[if_neg (by simp),get_bind afj _ _ bP,f1]
  exact t1
 rw[e]
 have ia:(!(P.pt&&(decide (P.pre=111)||decide (P.pre=98)))&&(decide (P.pre=48)||bL P.d1||bL P.d2)&&j_ P.pre P.pt P.ex&& !(decide (d_ P.pt P.ex P.im=0)&&decide (0<=s.inv))&& !((eA P.d1||eA P.d2||zd P.ex)&&decide (0<=bC (O.extract q q2))))=P.ok (O.extract q q2):=by
  have hi:decide (0<=s.inv)=(decide (P.base<=10)&&jr (48+P.base) P.d1):=by
   rw[j5]
   rw[if_pos (by decide)]at k4
   by_cases hx:P.base<=10∧jr (48+P.base) P.d1=true
   ·rw[if_pos hx]at k4
    simp[hx.1,hx.2,k4]
   ·rw[if_neg hx]at k4
    rw[k4]
    have:(decide (P.base<=10)&&jr (48+P.base) P.d1)=false:=by
     cases h2:jr (48+P.base) P.d1 with
     |false=>simp
     |true=>
      have:¬P.base<=10:=fun h=>hx ⟨h,h2⟩
      simp[this]
    rw[this];rfl
  unfold cI.ok cI.kind
  rw[hi]
 rw[ia]at t2
 exact t2
theorem Jn{O:U}{n:St}{q q1 q2:Nat}{d2:List Int}{ex:kB}{im:Bool}(hn:rS O q1 n)(hb:n.b=some q)(gI:n.ch≠10)(hc:Cl O q1 (d2++(b9 ex++gd im)) q2)(Mx:∀x∈d2,fS x=true)(hw:ze ex)(he:mC O q2 ex im):
 F7 O n q q2 (bL d2&&j_ 0 true ex&& !((eA d2||zd ex)&&decide (0<=bC (O.extract q q2)))) (d_ true ex im) (mz O true n):=by
 have afk:iw 10:= .inr (.inr (.inl rfl))
 have hI:gf O n (V9 n):=⟨afk,hn.off,.inl (by show(-1:Int)<0;decide),On.refl _ _⟩
 have hxe:∀e sg ds,ex=some (e,sg,ds)->gZ 10 e=false:=fun e sg ds hx=>by
  rw[hx]at hw
  obtain⟨w,_⟩:=hw
  rcases w with rfl|rfl|rfl|rfl<;>decide
 obtain⟨t,t1,t2⟩:=vZ (s1:=V9 n) (ok:=true) (a:=false) (b:=false) (pre:=0) (pt:=true) afk hI ⟨hn,fun _=>rfl,fun h=>by cases h⟩ ⟨rfl,rfl,rfl,rfl,rfl⟩ rfl hb hc Mx (fun h=>by cases h) hw he hxe
 have e:mz O true n=t:=by
  unfold mz dr
  rw[if_pos rfl]
  exact t1
 rw[e]
 have hk:decide (d_ true ex im=0)=false:=by
  unfold d_
  cases im<;>simp
 rw[hk]at t2
 simpa using t2
def bX(s:U):List Int:=s.data.toList.map fun b=>((b.toNat:Nat):Int)
theorem cS(s:U):(bX s).length=s.size:=by unfold bX;rw[List.length_map];exact bu s
theorem jb{s:U}{j:Nat}(h:j<s.size):(bX s)[j]? =some (((s.get! j).toNat:Nat):Int):=by
 have hl:j<s.data.toList.length:=by rw[bu];exact h
 rw[dM,List.getD_eq_getElem?_getD]
 unfold bX
 rw[List.getElem?_map,List.getElem?_eq_getElem hl]
 rfl
theorem iA(s:U):∀x∈bX s,0<=x∧x<256:=fun x hx=>by
 obtain⟨b,_,rfl⟩:=List.mem_map.1 hx
 have:=b.toNat_lt
 omega
theorem du{s:U}{j:Nat}(h:j<s.size):(bX s).drop j=(((s.get! j).toNat:Nat):Int)::(bX s).drop (j+1):=by
 have hg:=jb h
 have hl:j<(bX s).length:=by rw[cS];exact h
 rw[List.drop_eq_getElem_cons hl]
 rw[List.getElem?_eq_getElem hl]at hg
 simp only[Option.some.injEq]at hg
 rw[hg]
theorem ka(s:U)(i j:Nat)(hj:j<=s.size):bX (s.extract i j)=((bX s).drop i).take (j-i):=by
 refine List.ext_getElem? (fun k=> ?_)
 have eJ:=aA s i j hj
 by_cases hk:k<j-i
 ·rw[jb (by omega),a7 s i j k hj hk,List.getElem?_take,if_pos hk,List.getElem?_drop,jb (by omega)]
 ·rw[List.getElem?_eq_none (by rw[cS];omega),List.getElem?_take,if_neg hk]
def eQ(hex:Bool):Int->List Int->Option Int
 |d,[]=>some d
 |d,c::t=>if c=95 then(if d≠48 then none else eQ hex 95 t)else if aE c=true∨(hex=true∧dj c=true)then eQ hex 48 t else if d=95 then none else eQ hex 46 t
theorem jc(hex:Bool):∀(a b:List Int) (d:Int),eQ hex d (a++b)=(eQ hex d a).bind fun d'=>eQ hex d' b
 |[],b,d=>rfl
 |c::a,b,d=>by
  simp only[List.cons_append,eQ]
  split
  ·split
   ·rfl
   ·exact jc hex a b 95
  ·split
   ·exact jc hex a b 48
   ·split
    ·rfl
    ·exact jc hex a b 46
theorem F8{s:U}{x1:Int}(hs:s.size<=100000)(d:Int)(i:Nat):fO s x1 (d,i)=
 if i<s.size then(if jn s i=95 then(if d≠48 then(0,some (i:Int))else fO s x1 (95,(i+1:Nat)))
  else if aE (jn s i)=true∨(x1=120∧dj (jn s i)=true)then fO s x1 (48,(i+1:Nat))else if d=95 then(0,some (IntKind.i64.wrap ((i:Int)-1)))else fO s x1 (46,(i+1:Nat)))else(d,none):=by
 have hI:∀a,yu s a->(EV s x1 a).aD (Bj (yu s) (II s) a):=fun a ha=>an (Kw s x1 a ha) (fun st hs=>by
  cases st with
  |go a'=>exact hs
  |out q=>trivial)
 by_cases hi:i<s.size
 ·have hw:IntKind.i64.wrap ((i:Int)+1)=((i+1:Nat):Int):=by rw[show(i:Int)+1=((i+1:Nat):Int)by omega];exact aG (by omega) (by omega)
  rw[if_pos hi]
  unfold fO
  rw[ei hI ⟨by omega,by show(0:Int)<=(i:Int);omega⟩ (.out (0,none))]
  have bz:((i:Int)<(s.size:Int)):=by omega
  unfold EV
  by_cases h1:jn s i=95
  ·by_cases h2:d=48
   ·simp[af.get,cG,bz,h1,h2,hw]
   ·simp[af.get,cG,bz,h1,h2]
  ·cases h3:aE (jn s i)
   ·by_cases h4:x1=120
    ·cases h5:dj (jn s i)
     ·by_cases h6:d=95
      ·simp[af.get,cG,bz,h1,h3,h4,h5,h6]
      ·simp[af.get,cG,bz,h1,h3,h4,h5,h6,hw]
     ·simp[af.get,cG,bz,h1,h3,h4,h5,hw]
    ·by_cases h6:d=95
     ·simp[af.get,cG,bz,h1,h3,h4,h6]
     ·simp[af.get,cG,bz,h1,h3,h4,h6,hw]
   ·simp[af.get,cG,bz,h1,h3,hw]
 ·rw[if_neg hi]
  unfold fO
  rw[ei hI ⟨by omega,by show(0:Int)<=(i:Int);omega⟩ (.out (0,none))]
  have bz:¬((i:Int)<(s.size:Int)):=by omega
  unfold EV
  simp[af.get,cG,bz]
theorem F9{s:U}{i:Nat}:jn s i=((s.get! i).toNat:Int):=by
 unfold jn
 have:=(s.get! i).toNat_lt
 rw[Int.toNat_natCast,IntKind.wrap_i32]
 omega
def eH(r:Option Int):Prop:=∃d,r=some d∧d≠95
theorem kM{s:U}{x1:Int}(hs:s.size<=100000):∀(n i:Nat) (d:Int),s.size<=i+n->i<=s.size->(d=95->1<=i)->(my s (fO s x1 (d,i))<0↔eH (eQ (decide (x1=120)) d ((bX s).drop i)))∧(¬my s (fO s x1 (d,i))<0->0<=my s (fO s x1 (d,i)))
 |0,i,d,h1,h2,h3=>by
  have:i=s.size:=by omega
  subst this
  rw[F8 hs,if_neg (by omega),List.drop_eq_nil_of_le (by rw[cS];omega)]
  unfold my
  simp only[eQ]
  by_cases hd:d=95
  ·have:=h3 hd
   have hw:=aG (n:=(s.size:Int)-1) (by omega) (by omega)
   rw[if_pos hd,hw]
   refine⟨⟨fun h=>by omega,fun⟨d',h,h'⟩=> ?_⟩,fun _=>by omega⟩
   simp only[Option.some.injEq]at h
   omega
  ·rw[if_neg hd]
   exact⟨⟨fun _=>⟨d,rfl,hd⟩,fun _=>by decide⟩,fun h=>absurd (by decide) h⟩
 |n+1,i,d,h1,h2,h3=>by
  by_cases hi:i<s.size
  ·rw[F8 hs,if_pos hi,du hi,F9]
   simp only[eQ]
   generalize((s.get! i).toNat:Int)=c
   by_cases c1:c=95
   ·rw[if_pos c1,if_pos c1]
    by_cases c2:d=48
    ·rw[if_neg (by simp[c2]),if_neg (by simp[c2])]
     exact kM hs n (i+1) 95 (by omega) (by omega) (fun _=>by omega)
    ·rw[if_pos c2,if_pos c2]
     show((i:Int)<0↔_)∧(¬(i:Int)<0->0<=(i:Int))
     exact⟨⟨fun h=>by omega,fun⟨d',h,_⟩=>by cases h⟩,fun h=>by omega⟩
   ·rw[if_neg c1,if_neg c1]
    by_cases c3:aE c=true∨(x1=120∧dj c=true)
    ·rw[if_pos c3,if_pos (by simpa using c3)]
     exact kM hs n (i+1) 48 (by omega) (by omega) (fun h=>by cases h)
    ·have c3':¬(aE c=true∨decide (x1=120)=true∧dj c=true):=by simpa using c3
     rw[if_neg c3,if_neg c3']
     by_cases c4:d=95
     ·have:=h3 c4
      rw[if_pos c4,if_pos c4,aG (n:=(i:Int)-1) (by omega) (by omega)]
      show((i:Int)-1<0↔_)∧(¬(i:Int)-1<0->0<=(i:Int)-1)
      exact⟨⟨fun h=>by omega,fun⟨d',h,_⟩=>by cases h⟩,fun h=>by omega⟩
     ·rw[if_neg c4,if_neg c4]
      exact kM hs n (i+1) 46 (by omega) (by omega) (fun h=>by cases h)
  ·exact kM hs 0 i d (by omega) h2 h3
def zf(c:Int):Bool:=decide (ay c=120∨ay c=111∨ay c=98)
def jd:List Int->Option Int
 |48::c::t=>if zf c=true then eQ (decide (ay c=120)) 48 t else eQ false 46 (48::c::t)
 |l=>eQ false 46 l
theorem Al{s:U}(hs:s.size<=100000):(bC s<0↔eH (jd (bX s)))∧(¬bC s<0->0<=bC s):=by
 have k:=fun x1=>kM (s:=s) (x1:=x1) hs s.size 0 46 (by omega) (Nat.zero_le _) (fun h=>by cases h)
 unfold bC
 by_cases h:2<=s.size∧(s.get! 0).toNat=48
 ·rw[if_pos h]
  have e0:=du (s:=s) (j:=0) (by omega)
  have e1:=du (s:=s) (j:=1) (by omega)
  rw[List.drop_zero]at e0
  rw[h.2]at e0
  have hc:jn s 1=((s.get! 1).toNat:Int):=F9 (i:=1)
  have e:bX s=48::((s.get! 1).toNat:Int)::(bX s).drop 2:=by rw[e0,e1];rfl
  rw[e]
  simp only[jd]
  rw[hc]
  generalize hcc:((s.get! 1).toNat:Int)=c at*
  have ajK:0<=c∧c<256:=by have:=(s.get! 1).toNat_lt;omega
  by_cases hp:ay c=120∨ay c=111∨ay c=98
  ·rw[if_pos hp,if_pos (by unfold zf;exact decide_eq_true hp)]
   exact kM hs s.size 2 48 (by omega) (by omega) (fun h=>by cases h)
  ·rw[if_neg hp,if_neg (by unfold zf;simp[hp])]
   have:=k (ay c)
   rw[List.drop_zero,e,show decide (ay c=120)=false by simp;omega]at this
   exact this
 ·rw[if_neg h]
  have:=k 32
  rw[List.drop_zero]at this
  have e:jd (bX s)=eQ false 46 (bX s):=by
   have hl:=cS s
   match hb:bX s with
   |[]=>rfl
   |[c]=>
   unfold jd
   split
   ·rename_i heq;simp at heq
   ·rfl
   |c::c2::t=>
    by_cases hc:c=48
    ·exfalso
     apply h
     rw[hb]at hl
     simp only[List.length_cons]at hl
     refine⟨by omega,?_⟩
     have:=jb (s:=s) (j:=0) (by omega)
     rw[hb]at this
     simp only[List.getElem?_cons_zero,Option.some.injEq]at this
     omega
    ·unfold jd
     split
     ·rename_i heq
      simp only[List.cons.injEq]at heq
      exact absurd heq.1 hc
     ·rfl
  rw[e]
  exact this
def gN(D:Int->Bool):Bool->List Int->Bool
 |prev,[]=>prev
 |prev,c::t=>if c=95 then prev&&gN D false t else D c&&gN D true t
theorem tJ{D:Int->Bool}:∀{l:List Int} {prev:Bool},gN D prev l=true->∀x∈l,D x=true∨x=95
 |[],_,_,x,hx=>absurd hx List.not_mem_nil
 |c::t,prev,h,x,hx=>by
  simp only[gN]at h
  split at h
  ·simp only[Bool.and_eq_true]at h
   rename_i hc
   rcases List.mem_cons.1 hx with rfl|hx
   ·exact .inr hc
   ·exact tJ h.2 x hx
  ·simp only[Bool.and_eq_true]at h
   rcases List.mem_cons.1 hx with rfl|hx
   ·exact .inl h.1
   ·exact tJ h.2 x hx
theorem KW{D:Int->Bool}:∀{l:List Int},gN D false l=true->bL l=true
 |[],h=>by cases h
 |c::t,h=>by
  simp only[gN]at h
  split at h
  ·simp at h
  ·rename_i hc;simp[bL,hc]
theorem zg{hex:Bool}{D:Int->Bool}(hD:∀x,D x=true->aE x=true∨(hex=true∧dj x=true)):∀{l:List Int} {prev:Bool} {d:Int},gN D prev l=true->(prev=true->d=48)->eQ hex d l=some 48
 |[],prev,d,h,hp=>by
  simp only[gN]at h
  rw[hp h];rfl
 |c::t,prev,d,h,hp=>by
  simp only[gN]at h
  simp only[eQ]
  split at h
  ·rename_i hc
   simp only[Bool.and_eq_true]at h
   rw[if_pos hc,if_neg (by simp[hp h.1])]
   exact zg hD h.2 (fun h=>by cases h)
  ·rename_i hc
   simp only[Bool.and_eq_true]at h
   rw[if_neg hc,if_pos (hD c h.1)]
   exact zg hD h.2 (fun _=>rfl)
theorem BI{D:Int->Bool}{l:List Int}(h:gN D false l=true):∃c t,l=c::t∧D c=true∧c≠95∧gN D true t=true:=by
 cases l with
 |nil=>cases h
 |cons c t=>
  simp only[gN]at h
  split at h
  ·simp at h
  ·rename_i hc
   simp only[Bool.and_eq_true]at h
   exact⟨c,t,rfl,h.1,hc,h.2⟩
end
end Sc
end Go.Proofs.YtogkcphobhhbdaaGreatDoor
