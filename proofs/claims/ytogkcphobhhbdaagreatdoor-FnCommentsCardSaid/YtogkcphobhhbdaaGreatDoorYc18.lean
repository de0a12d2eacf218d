/- The scanner of the program told as plain functions, part 18: texts joined and shortened by a program (wip/tools/mini.py). -/
import Derived.Test.YtogkcphobhhbdaaGreatDoorYc17
set_option linter.unusedVariables false
set_option linter.unusedSimpArgs false
set_option maxHeartbeats 32000000
namespace Go.Proofs.YtogkcphobhhbdaaGreatDoor
open Go Go.RowKit Go.Lib
namespace Sc
open Ev
set_option maxRecDepth 100000
noncomputable section
theorem nr{O:U}:∀(n:Nat) (x:LS),x.ai≠0->fD O n x=x
 |0,_,_=>rfl
 |n+1,x,h=>by rw[fD,if_neg h]
theorem BX{O:U}{x:LS}(n:Nat)(h:x.p<O.size->(O.get! x.p).toNat≠10∧(O.get! x.p).toNat≠32∧(O.get! x.p).toNat≠9∧(O.get! x.p).toNat≠13):bU O n x=x:=by
 cases n with
 |zero=>rfl
 |succ n=>
  rw[bU]
  split
  ·rename_i hp
   obtain⟨h1,h2,h3,h4⟩:=h hp
   rw[if_neg h1,if_neg (by omega)]
  ·rfl
theorem dv{O w:U}{p:Nat}(hp:p<=O.size):Lib.hasPrefix (O.extract p O.size).data.toList w.data.toList=true↔Sub O p w:=zb.trans (Sn hp)
theorem tZ{O:U}{x:LS}(hp:x.p<=O.size)(h:(O.get! x.p).toNat≠47):bT O x=none:=by
 have h1:¬Lib.hasPrefix (O.extract x.p O.size).data.toList N1.data.toList=true:=fun hh=>by
  have:=((dv hp).1 hh).get 0 (by decide)
  rw[Nat.add_zero]at this
  exact h (by rw[this];rfl)
 have h2:¬Lib.hasPrefix (O.extract x.p O.size).data.toList Jk.data.toList=true:=fun hh=>by
  have:=((dv hp).1 hh).get 0 (by decide)
  rw[Nat.add_zero]at this
  exact h (by rw[this];rfl)
 unfold bT
 simp only
 rw[if_neg h1,if_neg h2]
structure An(O:U)(e:Nat):Prop where
 lt:e<O.size
 bad:ca O e=true∨(128<=(Utf8.decode O e).1∧iO (Utf8.decode O e).1=false)
theorem An.byte{O:U}{e:Nat}(h:An O e):(O.get! e).toNat=0∨128<=(O.get! e).toNat:=by
 by_cases hb:(O.get! e).toNat<128
 ·have e1:=ic hb
  rcases h.bad with h1|h1
  ·unfold ca at h1
   rw[e1]at h1
   simp only[Bool.and_eq_true,Bool.or_eq_true,decide_eq_true_eq]at h1
   omega
  ·rw[e1]at h1
   simp only at h1
   omega
 ·omega
theorem Ov{O:U}{x:LS}(hp:x.p<=O.size)(h:∀w∈jS,¬Sub O x.p w):mb O x={x with ai:=1}:=by
 unfold mb
 have:(jS.find? fun w=>Lib.hasPrefix (O.extract x.p O.size).data.toList w.data.toList)=none:=by
  rw[List.find?_eq_none]
  exact fun w hw hh=>h w hw ((dv hp).1 hh)
 rw[this]
theorem JG{O:U}{x:LS}(h:An O x.p):bR O x={x with ai:=1}:=by
 have hb:=h.byte
 unfold bR
 simp only
 by_cases h1:ca O x.p=true
 ·rw[if_pos h1]
 ·obtain⟨h2,h3⟩:=h.bad.resolve_left h1
  have e:ba O x.p=(Utf8.decode O x.p).1:=by unfold ba;rw[if_pos h.lt]
  have n128:128<=(O.get! x.p).toNat:=by
   rcases hb with hb|hb
   ·rw[ic (by omega)]at h2;simp only at h2;omega
   ·exact hb
  have hd:¬(qt (O.get! x.p)=true∨((O.get! x.p).toNat=46∧x.p+1<O.size∧qt (O.get! (x.p+1))=true)):=by
   unfold qt
   simp only[Bool.and_eq_true,decide_eq_true_eq]
   omega
  rw[if_neg h1,e,if_neg (by rw[h3];decide),if_neg hd,if_neg (by omega),if_neg (by omega),if_neg (by omega)]
  refine Ov (Nat.le_of_lt h.lt) (fun w hw hs=> ?_)
  obtain⟨z0,z1⟩:=lD hw
  have z:=(z1 0 z0).hi
  have:=hs.get 0 z0
  rw[Nat.add_zero]at this
  rw[this]at n128
  omega
theorem JH{O:U}{x:LS}(h:An O x.p):iC O x=(if x.p=x.stop∧0<x.out.length then{x with ai:=1,out:=x.out.take x.fst}else{x with ai:=1},false):=by
 have hb:=h.byte
 have hp:=h.lt
 unfold iC
 simp only
 rw[BX _ (fun _=>by omega),if_neg (by omega),tZ (Nat.le_of_lt hp) (by omega),Option.getD_none,JG h]
 by_cases h1:x.p=x.stop∧0<x.out.length
 ·rw[if_pos h1,if_pos ⟨Nat.one_ne_zero,h1⟩]
 ·rw[if_neg h1,if_neg (fun hh=>h1 hh.2)]
theorem Yu{O:U}{x:LS}(h0:x.ai=0)(h:An O x.p)(n:Nat):(fD O (n+1) x).ai=1∧(fD O (n+1) x).out=if x.p=x.stop∧0<x.out.length then x.out.take x.fst else x.out:=by
 rw[fD,if_pos h0,JH h]
 simp only[Bool.false_eq_true,if_false]
 by_cases h1:x.p=x.stop∧0<x.out.length
 ·rw[if_pos h1,if_pos h1,nr _ _ (by show(1:Nat)≠0;decide)]
  exact⟨rfl,rfl⟩
 ·rw[if_neg h1,if_neg h1,nr _ _ (by show(1:Nat)≠0;decide)]
  exact⟨rfl,rfl⟩
theorem An.lH{O:U}{e:Nat}(h:e<O.size)(hb:ca O e=true):¬rT O e:=fun hg=>Ys h hb hg.jq
theorem bO.drop{O:U}{m:Int}{x y:LS}{st:St}(h:Bd O m x st){n:Nat}(hn:0<n)(hs:y.ai=0)(bn:y.stop=y.p)(hf:y.fst<=x.out.length){l:List eP}(ho:y.out=x.out++l)(hl:0<l.length)(ht:An O y.p)
 (told:m=0->rT O x.p->∀L e,mA O st L e->e.ab≠[]):bO O m x st (fD O n y):=by
 have:=ht.lt
 obtain⟨k,rfl⟩:∃k,n=k+1:=⟨n-1,by omega⟩
 obtain⟨a,b⟩:=Yu hs ht k
 rw[if_pos ⟨bn.symm,by rw[ho,List.length_append];omega⟩,ho,List.take_append_of_le_length hf]at b
 exact .pre h.iv b (by rw[a];decide) (fun _ hm hg=>told hm hg)
theorem mg{O:U}{x:LS}{cls kind:Int}{e:Nat}(h:x.fst<=x.out.length):(dk O {x with p:=e} cls kind x.p).fst<=x.out.length:=by
 show(if x.p≠x.stop then x.out.length else x.fst)<=_
 split
 ·exact Nat.le_refl _
 ·exact h
theorem bO.afR{O:U}{m:Int}{x y:LS}{st N s:St}(h:Bd O m x st)(g:Nx O m x st N){n:Nat}{e:Nat}{cls kind:Int}{cs:List Int}(ih:∀x st,Bd O m x st->O.size+1<=x.p+n->bO O m x st (fD O n x))(hn:O.size<=x.p+n)
 (hp:x.p<e)(ie:Cl O x.p cs e)(hs:(aK O st).1=s)(acB:Std O e s)(oL:s.ab=N.ab)(hlc:s.line=N.line∧s.aM=N.aM)(acC:s.tok≠1)(hlk:Aj s ⟨cls,O.extract x.p e,kind,0,0⟩)
 (y0:y.ai=0)(y1:y.p=e)(y2:y.out=x.out++[⟨cls,O.extract x.p e,kind,x.line,(x.p:Int)-x.st+1⟩])(y3:y.fst<=x.out.length)(y4:y.line=1+gE O e)(y5:y.st=kC O e)(y6:s.au=y.ends)(y7:y.rem=x.rem):bO O m x st (fD O n y):=by
 subst hs y1
 refine bO.one (x':=y) (.one acC) y2 ⟨⟨hlk.1,hlk.2⟩,fun hd _=> ?_⟩ (fun hg=>hg.on ie) (ih _ _ (h.to y6 (Nat.le_of_lt hp) (ie.le2 h.le) y0 ?_ y4 y5 (fun abU=>⟨.gQ acB,by rw[y7];exact g.nts.eq (oL.trans g.here.ab)⟩)) (by omega))
 ·obtain⟨a,b,_⟩:=g.pl hd
  exact⟨hlc.1.trans a,hlc.2.trans b⟩
 ·rw[y2,List.length_append];omega
theorem bO.put{O:U}{m:Int}{x:LS}{st N s:St}(h:Bd O m x st)(g:Nx O m x st N){n:Nat}{e:Nat}{cls kind:Int}{cs:List Int}(ih:∀x st,Bd O m x st->O.size+1<=x.p+n->bO O m x st (fD O n x))(hn:O.size<=x.p+n)
 (hp:x.p<e)(ie:Cl O x.p cs e)(gI:∀c∈cs,c≠10)(hs:(aK O st).1=s)(acB:Std O e s)(oL:s.ab=N.ab)(hlc:s.line=N.line∧s.aM=N.aM)(acC:s.tok≠1)(hlk:Aj s ⟨cls,O.extract x.p e,kind,0,0⟩)
 (GP:s.au=(dk O {x with p:=e} cls kind x.p).ends):bO O m x st (fD O n (dk O {x with p:=e} cls kind x.p)):=by
 have hnn:=ie.nl gI
 exact bO.afR h g ih hn hp ie hs acB oL hlc acC hlk h.clean rfl rfl (mg h.fst) (by rw[hnn.1];exact h.line) (by rw[hnn.2];exact h.bol) GP rfl
theorem Yv:((List.range FV.size).all fun j=> !decide ((FV.get! j).toNat=32)||decide (FV.size<=j+1)||((List.range 14).any fun d=>decide ((FV.get! (j+1+d)).toNat=32)&&((List.range d).all fun i=> !decide ((FV.get! (j+1+i)).toNat=32))&&((List.range 47).any fun k=>decide (22<=k)&&decide ((aH k).toList=(FV.extract (j+1) (j+1+d)).toList))))=true:=by kernel_rfl
theorem Yw:((List.range 47).all fun k=>decide (k<22)||(decide (2<=(aH k).size)&&decide (k_ (iI (aH k))=k)&&(mZ 2200168300544 (k:Nat)==c_ (aH k))&&
 ([[69,79,70],[110,97,109,101],[108,105,116,101,114,97,108],[111,112],[111,112,61],[111,112,111,112],[59]].all fun(l:List UInt8)=> !decide ((aH k).toList=l))))=true:=by kernel_rfl
theorem Ow{w:U}(h:gY w=true):∃k,22<=k∧k<=46∧w=aH k:=by
 unfold gY at h
 simp only[Bool.and_eq_true,Bool.not_eq_true',decide_eq_true_eq]at h
 obtain⟨⟨h1,h2⟩,h3⟩:=h
 obtain⟨j,_,j2,j3,_⟩:=p_ _ _ h3
 have eJ:(NW++w++NW).size=w.size+2:=by rw[fB,fB];show 1+w.size+1=_;omega
 have hex:FV.extract j (j+(NW++w++NW).size)=NW++w++NW:=toList_inj j3
 rw[eJ]at hex j2
 have g:∀i,i<w.size+2->FV.get! (j+i)=(NW++w++NW).get! i:=fun i hi=>by
  rw[←hex,a7 _ _ _ _ j2 (by omega)]
 have g0:(FV.get! j).toNat=32:=by
  have:=g 0 (by omega)
  rw[Nat.add_zero,pw _ _ _ (by rw[fB];show 0<1+w.size;omega),pw _ _ _ (by decide)]at this
  rw[this];rfl
 have gw:∀i,i<w.size->FV.get! (j+1+i)=w.get! i:=fun i hi=>by
  have:=g (1+i) (by omega)
  rw[pw _ _ _ (by rw[fB];show 1+i<1+w.size;omega),show 1+i=NW.size+i from rfl,pZ]at this
  rw[←this];show _=FV.get! (j+(1+i));rw[Nat.add_assoc]
 have ge:(FV.get! (j+1+w.size)).toNat=32:=by
  have:=g (1+w.size) (by omega)
  have e:1+w.size=(NW++w).size+0:=by rw[fB];rfl
  rw[e,pZ]at this
  rw[show j+1+w.size=j+((NW++w).size+0)by rw[fB];show _=j+(1+w.size+0);omega,this];rfl
 have ns:∀i,i<w.size->(w.get! i).toNat≠32:=fun i hi e=>FM (c:=32) (by omega) hi (UInt8.toNat_inj.1 e)
 have t:=List.all_eq_true.1 Yv j (List.mem_range.2 (by omega))
 simp only[Bool.or_eq_true,Bool.not_eq_true',decide_eq_false_iff_not,decide_eq_true_eq,List.any_eq_true,Bool.and_eq_true,List.all_eq_true,List.mem_range]at t
 rcases t with(t|t)|⟨d,hd,⟨t1,t2⟩,k,hk,t3,t4⟩
 ·exact absurd g0 t
 ·omega
 ·have hdw:d=w.size:=by
   rcases Nat.lt_trichotomy d w.size with h|h|h
   ·exact absurd (by rw[gw d h]at t1;exact t1) (ns d h)
   ·exact h
   ·exact absurd ge (t2 _ h)
  subst hdw
  refine⟨k,t3,by omega,?_⟩
  rw[toList_inj t4]
  refine fx (by rw[aA _ _ _ (by omega)];omega) (fun i hi=> ?_)
  rw[a7 _ _ _ _ (by omega) (by omega),gw i hi]
theorem GQ{O:U}{s:St}(h:gY (fG O s)=true):∃k:Nat,22<=k∧k<=46∧cW O s={s with au:=c_ (fG O s),tok:=(k:Int)}∧∀lt op,gX (aH k) lt op=(3,fG O s):=by
 obtain⟨k,k1,k2,k3⟩:=Ow h
 have t:=List.all_eq_true.1 Yw k (List.mem_range.2 (by omega))
 simp only[Bool.or_eq_true,decide_eq_true_eq,Bool.and_eq_true,List.all_eq_true,Bool.not_eq_true',decide_eq_false_iff_not,beq_iff_eq,List.mem_cons,List.not_mem_nil,or_false,forall_eq_or_imp,forall_eq]at t
 obtain⟨⟨⟨t1,t2⟩,t3⟩,n1,n2,n3,n4,n5,n6,n7⟩:=t.resolve_left (by omega)
 refine⟨k,k1,k2,?_,fun lt op=> ?_⟩
 ·unfold cW
  rw[k3,t2,if_pos ⟨t1,by omega,rfl⟩,t3]
 ·unfold gX
  rw[if_neg n1,if_neg n2,if_neg n3,if_neg n4,if_neg n5,if_neg n6,if_neg n7,k3]
theorem acD:ko 65533=false:=by decide+kernel
theorem afS:ko 10=false:=by decide+kernel
theorem Yx{O:U}{p:Nat}(hp:p<O.size)(h:ko (Utf8.decode O p).1=true):bA O p (Utf8.decode O p).1 (Utf8.decode O p).2:=by
 refine⟨hp,?_⟩
 by_cases hb:(O.get! p).toNat<128
 ·rw[ic hb]at h⊢
  exact .inl ⟨hb,(fun e=>by simp only at h;rw[e,show((0:Nat):Int)=0 from rfl,Xc]at h;cases h),rfl,rfl⟩
 ·refine .inr ⟨hb,fun e=> ?_,fun e=> ?_,rfl,rfl⟩
  ·rw[e.1,show((65533:Nat):Int)=65533 from rfl,acD]at h;cases h
  ·rw[e,show((65279:Nat):Int)=65279 from rfl,abX]at h;cases h
theorem t_{O:U}:∀(n p:Nat),O.size<=p+n->p<=O.size->∃cs,Cl O p cs (bW O n p)∧(∀c∈cs,ko c=true)∧(bW O n p<O.size->ko (Utf8.decode O (bW O n p)).1=false)
 |0,p,h1,h2=>⟨[],.nil,fun c hc=>absurd hc List.not_mem_nil,fun h=>by have h:p<O.size:=h;omega⟩
 |n+1,p,h1,h2=>by
  rw[bW]
  by_cases hp:p<O.size
  ·rw[if_pos hp]
   by_cases hi:ko (Utf8.decode O p).1=true
   ·rw[if_pos hi]
    have hc:=Yx hp hi
    have hw:=hc.w
    obtain⟨cs,c1,c2,c3⟩:=t_ (O:=O) n (p+(Utf8.decode O p).2) (by omega) (by omega)
    refine⟨_,.cons hc c1,fun c wi=> ?_,c3⟩
    rcases List.mem_cons.1 wi with rfl|wi
    ·exact hi
    ·exact c2 c wi
   ·rw[if_neg hi]
    exact⟨[],.nil,fun c hc=>absurd hc List.not_mem_nil,fun _=>by simpa using hi⟩
  ·rw[if_neg hp]
   exact⟨[],.nil,fun c hc=>absurd hc List.not_mem_nil,fun h=>absurd h hp⟩
theorem TW{st:St}(h:ko st.ch=false)(h2:128<=st.ch):cA false st=(true,error kI st):=by
 unfold ko iO at h
 simp only[Bool.or_eq_false_iff,beq_eq_false_iff_ne,ne_eq]at h
 unfold cA
 rw[if_neg (by simp[h.1.1,h.1.2]),if_neg (by simp[h.2]),if_pos (by omega)]
theorem TX{O:U}{p q:Nat}{cs:List Int}(h:Cl O p cs q){r:Int}{w:Nat}(hq:bA O q r w)(h1:128<=r)(h2:ko r=false):∀{st:St},(∀x∈cs,ko x=true)->Std O p st->st.ab.length<(qq O st).ab.length:=by
 induction h with
 |@nil p=>
  intro st _ bn
  have e:=(bn.of hq).1
  rw[xc bn.fY,TW (by rw[e];exact h2) (by rw[e];exact h1)]
  simp only[if_true]
  have a:=(aR O (error kI st)).len
  have b:=(wU O (aa O (error kI st)) (cq _ _)).1.len
  have c:=gD kI st
  omega
 |@cons p w q r' cs h3 h4 ih=>
  intro st ha bn
  obtain⟨e1,e2⟩:=bn.of h3
  have ie:iP O (p+w):=h4.jq (.inl ⟨_,_,hq⟩)
  have hn:=cv bn (by rw[e2];exact ie)
  rw[e2]at hn
  rw[xc bn.fY,FR (by rw[e1];exact ha r' (by simp))]
  simp only[if_true]
  have:=ih hq (fun x hx=>ha x (by simp[hx])) hn.1
  rw[hn.2]at this
  exact this
theorem zB(O:U)(s:St):(cW O s).ab=s.ab:=by unfold cW;split<;>rfl
theorem JI{O:U}{p q:Nat}{cs:List Int}(h:Cl O p cs q){r:Int}{w:Nat}(hq:bA O q r w)(h1:128<=r)(h2:ko r=false){st:St}(ha:∀x∈cs,ko x=true)(bn:Std O p st):st.ab.length<(dV O st).ab.length:=by
 obtain⟨us,bs,m,g1,g2,g3,g4,g5⟩:=FU h
 subst g1
 have hm:iP O m:=g3.jq (.inl ⟨_,_,hq⟩)
 have eM:∃r' w',bA O m r' w'∧128<=r':=by
  rcases g5 with rfl|⟨r',w',t,rfl,k1,k2⟩
  ·cases g3;exact⟨_,_,hq,h1⟩
  ·exact⟨_,_,k1,k2⟩
 obtain⟨r',w',k1,k2⟩:=eM
 obtain⟨s1,s2⟩:=tz (c:=qp) (by decide+kernel) g2 (fun x hx=>by
  rw[Db (g4 x hx).1 (g4 x hx).2];exact ha x (by simp[hx])) hm (fun r w hc=>by rw[(hc.uniq k1).1];have:=k1.w;exact xa k2 (by omega)) bn
 have e1:=(s1.of k1).1
 have:=TX g3 hq h1 h2 (fun x hx=>ha x (List.mem_append_right _ hx)) s1
 rw[s2.ab]at this
 unfold dV
 rw[if_pos (by omega),zB]
 exact this
theorem bO.word{O:U}{m:Int}{x:LS}{st:St}(h:Bd O m x st){n:Nat}(ih:∀x st,Bd O m x st->O.size+1<=x.p+n->bO O m x st (fD O n x))(hn:O.size<=x.p+n){r:Int}{w:Nat}(hc:bA O x.p r w)(hl:iO r=true):
 bO O m x st (fD O n (dk O {x with p:=bW O O.size x.p} (if gY (O.extract x.p (bW O O.size x.p))=true then 3 else 1) 0 x.p)):=by
 obtain⟨cs,c1,c2,c3⟩:=t_ (O:=O) O.size x.p (by omega) h.le
 have hr:ko r=true:=by unfold ko;rw[hl];rfl
 have bz:=hc.lt
 have N6:=hc.w
 generalize bW O O.size x.p=e at*
 have hle:=c1.le2 h.le
 have hrd:r=((Utf8.decode O x.p).1:Int):=by have:=hc.clear.2.1;unfold ba at this;rw[if_pos bz]at this;exact this.symm
 obtain⟨ds,rfl,d1⟩:∃ds,cs=r::ds∧Cl O (x.p+w) ds e:=by
  cases c1 with
  |nil=>have:=c3 bz;rw[←hrd,hr]at this;cases this
  |cons k1 k2=>
   obtain⟨e1,e2⟩:=k1.uniq hc
   subst e1 e2
   exact⟨_,rfl,k2⟩
 have hds:∀x∈ds,ko x=true:=fun x hx=>c2 x (List.mem_cons_of_mem _ hx)
 have d2:=d1.le
 have n10:∀c∈r::ds,c≠10:=fun c wi e=>by have:=c2 c wi;rw[e,afS]at this;cases this
 obtain⟨⟨p0,bs,g1,g2,g3,g4⟩,ht⟩:=h.at_ (.inl ⟨_,_,hc⟩)
 by_cases hT:An O e
 ·refine bO.drop h (by omega) h.clean rfl (mg h.fst) rfl (by simp) hT (fun hm hg=> ?_)
  have Qz:=hg.on c1
  rcases hT.bad with hb|⟨cz,fm⟩
  ·exact absurd Qz (An.lH hT.lt hb)
  ·have ie:=Qz.jq
   have hcq:bA O e ((Utf8.decode O e).1:Int) (Utf8.decode O e).2:=by
    rcases ie with⟨r',w',hq⟩|hq
    ·have:=hq.clear
     unfold ba aN at this
     rw[if_pos hT.lt,if_pos hT.lt]at this
     rw[this.2.1,this.2.2];exact hq
    ·have:=hT.lt;omega
   refine qd h.iv ?_
   obtain⟨N,hN,e1⟩:=kL (nl:=x.ends) (g2.same (b:={st with au:=false}) rfl rfl rfl rfl) g1 g3 g4 (.inl ⟨_,_,hc⟩) (fun r' w' rQ=>by rw[(rQ.uniq hc).1];exact BD hr)
   obtain⟨a1,a2⟩:=hN.gQ.of hc
   have hcn:iP O (x.p+N.bD):=by rw[a2];exact d1.jq ie
   have n1:=cv hN.gQ hcn
   rw[a2]at n1
   have:=JI d1 hcq (by omega) (c3 hT.lt) hds n1.1
   have e2:(aK O st).1=dV O (aa O N):=by
    rw[cR,h.nl,dB h.pos h.iv.sz,e1,ZC (by rw[a1];exact hl) (by omega) (by omega)]
    generalize dV O (aa O N)=I
    rfl
   rw[e2]
   intro e3
   rw[e3]at this
   exact absurd this (Nat.not_lt_zero _)
 ·have ie:iP O e:=by
   rcases rL hle (fun e0=>by omega)with ie|⟨cz,fm⟩
   ·exact ie
   ·exact absurd ⟨cz,.inl fm⟩ hT
  have hE:FT O e:=⟨ie,fun r' w' hq=>by
   have hq1:=hq.lt
   have:=hq.clear.2.1
   unfold ba at this
   rw[if_pos hq1]at this
   have hi:=c3 hq1
   rw[this]at hi
   refine⟨hi,?_⟩
   by_cases hb:r'<128
   ·exact hb
   ·refine absurd ⟨hq1,.inr ⟨by omega,?_⟩⟩ hT
    rw[this]
    unfold ko at hi
    simp only[Bool.or_eq_false_iff]at hi
    exact hi.1⟩
  obtain⟨N,s,k1,k2,k3,k4,k5⟩:=NX (nl:=x.ends) h.iv.sz h.pos (g2.same rfl rfl rfl rfl) g1 g3 g4 hc hl d1 hds hE
  have g:Nx O m x st N:= .of h k2 ht
  have kk:fG O s=O.extract x.p e:=by
   unfold fG
   rw[k5,k3.cut];rfl
  have e2:(aK O st).1=cW O s:=by rw[cR,h.nl,k1]
  have klc:s.line=N.line∧s.aM=N.aM:=by rw[k4.bm];exact⟨rfl,rfl⟩
  cases hk:gY (O.extract x.p e)with
  |false=>
   rw[Ak (by rw[kk];exact hk)]at e2
   rw[if_neg (by decide)]
   refine bO.put h g ih hn (by omega) c1 n10 e2 (k3.same rfl rfl rfl rfl) k4.ab klc (by show(2:Int)≠1;decide) ?_ ?_
   ·have:=NZ (s:={s with au:=true,lit:=fG O s,tok:=2}) rfl
    refine⟨?_,fun hh=>by cases hh⟩
    have h1:=this.1
    rw[←kk];exact h1
   ·show true=_
    rfl
  |true=>
   obtain⟨k,b1,b2,b3,b4⟩:=GQ (O:=O) (s:=s) (by rw[kk];exact hk)
   rw[b3]at e2
   rw[if_pos rfl]
   refine bO.put h g ih hn (by omega) c1 n10 e2 (k3.same rfl rfl rfl rfl) k4.ab klc (by show(k:Int)≠1;omega) ⟨?_,fun hh=>by cases hh⟩ ?_
   ·show gX (aH (Int.toNat (k:Int))) _ _=(3,O.extract x.p e)
    rw[←kk,Int.toNat_natCast]
    exact b4 _ _
   ·show c_ (fG O s)=(decide ((3:Int)=1)||decide ((3:Int)=2)||(decide ((3:Int)=3)&&c_ (O.extract x.p e)))
    rw[kk]
    cases c_ (O.extract x.p e)<;>rfl
theorem Ox{s:St}(h:s.tok=18)(h2:s.lit=vS):gX (aH s.tok.toNat) s.lit (lB s.op)=(4,⟨#[59]⟩):=by
 rw[h,h2]
 show gX (aH 18) vS _=_
 unfold gX
 rw[By,show vS.toList=[115,101,109,105,99,111,108,111,110]by kernel_rfl,if_neg (by decide),if_neg (by decide),if_neg (by decide),if_neg (by decide),if_neg (by decide),if_neg (by decide),if_pos rfl,if_pos rfl]
 rfl
theorem bO.lO{O:U}{m:Int}{x:LS}{st:St}(h:Bd O m x st){n:Nat}(ih:∀x st,Bd O m x st->O.size+1<=x.p+n->bO O m x st (fD O n x))(hn:O.size<=x.p+n)(hp:x.p<O.size)(hb:(O.get! x.p).toNat=59):
 bO O m x st (fD O n (dk O {x with p:=x.p+1} 4 0 x.p)):=by
 have hc:=cM hp (by omega) (by omega)
 rw[hb]at hc
 have c1:=pE hc
 rcases rL (O:=O) (p:=x.p+1) hp (fun e=>absurd e (Nat.succ_ne_zero _))with ie|⟨cz,fm⟩
 ·obtain⟨N,g,kE,e⟩:=h.sw (.inl ⟨1,hc⟩) (by cases x.ends<;>rfl) (by decide) (by decide)
  have e1:(jM O x.ends N).get Sc.iN= .done (lit vS (aa O N)) []:=by
   unfold jM
   simp[af.get,kE,fi]
  rw[e1]at e
  have e2:(aK O st).1=lit vS (aa O N):=by rw[e];rfl
  obtain⟨_,s1,s2⟩:=dZ g.here.gQ hc ie
  refine bO.put h g ih hn (Nat.lt_succ_self _) c1 (fun c wi=>by simp only[List.mem_singleton]at wi;subst wi;decide) e2 (s1.same rfl rfl rfl rfl) s2.ab (by rw[show(lit vS (aa O N)).line=(aa O N).line from rfl,show(lit vS (aa O N)).aM=(aa O N).aM from rfl,s2.bm];exact⟨rfl,rfl⟩) (by show(18:Int)≠1;decide) ⟨?_,fun hh=>by cases hh⟩ ?_
  ·rw[Ox rfl rfl]
   show(4,_)=(4,O.extract x.p (x.p+1))
   refine congrArg (Prod.mk 4) (fx ?_ (fun j hj=> ?_))
   ·rw[aA _ _ _ hp];show 1=_;omega
   ·have hj:j<1:=hj
    obtain rfl:j=0:=by omega
    rw[a7 _ _ _ _ hp (by omega),Nat.add_zero]
    exact UInt8.toNat_inj.1 hb.symm
  ·show(aa O N).au=_
   rw[s2.bm]
   exact g.here.nl
 ·exact bO.drop h (by omega) h.clean rfl (mg h.fst) rfl (by simp) ⟨cz,.inl fm⟩ (fun hm hg=>absurd (hg.on c1) (An.lH cz fm))
theorem Oy:jS.Pairwise (fun a b=>b.size<=a.size):=by decide+kernel
theorem acE:(jS.all fun w=> !decide ((w.get! 0).toNat=46)||decide (w.toList=[46])||decide (w.toList=[46,46,46]))=true:=by kernel_rfl
theorem TY:(⟨#[46]⟩:U).toList=[46]:=by kernel_rfl
theorem acF:(⟨#[46,46,46]⟩:U).toList=[46,46,46]:=by kernel_rfl
theorem ua{O w:U}{p:Nat}(hp:p<=O.size)(h:(jS.find? fun w=>Lib.hasPrefix (O.extract p O.size).data.toList w.data.toList)=some w):w∈jS∧Sub O p w∧FW O p w:=by
 obtain⟨h1,l1,l2,h2,h3⟩:=List.find?_eq_some_iff_append.1 h
 refine⟨by rw[h2];simp,(dv hp).1 h1,fun w' hw' hs=> ?_⟩
 have hm:=Dc hw'
 rw[h2]at hm
 have hso:=Oy
 rw[h2,List.pairwise_append,List.pairwise_cons]at hso
 rcases List.mem_append.1 hm with hm|hm
 ·have:=h3 w' hm
  rw[(dv hp).2 hs]at this
  cases this
 ·rcases List.mem_cons.1 hm with rfl|hm
  ·exact Nat.le_refl _
  ·exact hso.2.1.1 w' hm
theorem afT{O w:U}{p:Nat}(hw:w∈jS)(hs:Sub O p w):Cl O p (bX w) (p+w.size)∧∀c∈bX w,c≠10:=by
 obtain⟨z0,z1⟩:=lD hw
 have key:∀c∈bX w,0<c∧c<128∧c≠10:=fun c hc=>by
  obtain⟨j,hj,e⟩:=List.getElem_of_mem hc
  rw[cS]at hj
  have e2:=jb hj
  rw[List.getElem?_eq_getElem (by rw[cS];exact hj),Option.some.injEq]at e2
  have z:=z1 j hj
  have e3:c=((w.get! j).toNat:Int):=e.symm.trans e2
  have:=z.lo;have:=z.hi
  refine⟨by omega,by omega,fun Rj=> ?_⟩
  have:=z.bl false
  rw[←e3,Rj]at this
  cases this
 exact⟨S8 hs (fun x hx=>⟨(key x hx).1,(key x hx).2.1⟩),fun c hc=>(key c hc).2.2⟩
def afU(O:U)(p:Nat):Prop:=¬(qt (O.get! p)=true∨((O.get! p).toNat=46∧p+1<O.size∧qt (O.get! (p+1))=true))
theorem Oz{O:U}{y:LS}(hp:y.p<O.size)(hb:(O.get! y.p).toNat=46)(ht:An O (y.p+1))(h0:y.ai=0):iC O y=(dk O {y with p:=y.p+1} 3 0 y.p,false):=by
 have hc:=cM hp (by omega) (by omega)
 obtain⟨c1,c2,c3⟩:=hc.clear
 have fm:=ht.byte
 have hl:iO (ba O y.p)=false:=by rw[c2,hb];decide+kernel
 have hd:¬(qt (O.get! y.p)=true∨((O.get! y.p).toNat=46∧y.p+1<O.size∧qt (O.get! (y.p+1))=true)):=by
  unfold qt
  simp only[Bool.and_eq_true,decide_eq_true_eq]
  omega
 have hs:Sub O y.p ⟨#[46]⟩:=⟨hp,fun j hj=>by
  have hj:j<1:=hj
  obtain rfl:j=0:=by omega
  exact UInt8.toNat_inj.1 hb⟩
 have hf:mb O y=dk O {y with p:=y.p+1} 3 0 y.p:=by
  unfold mb
  cases hf:(jS.find? fun w=>Lib.hasPrefix (O.extract y.p O.size).data.toList w.data.toList)with
  |none=>
   rw[List.find?_eq_none]at hf
   exact absurd ((dv (Nat.le_of_lt hp)).2 hs) (hf ⟨#[46]⟩ (Dc (by kernel_rfl)))
  |some w=>
   obtain⟨w1,w2,w3⟩:=ua (Nat.le_of_lt hp) hf
   obtain⟨z0,z1⟩:=lD w1
   have e0:=w2.get 0 z0
   rw[Nat.add_zero]at e0
   have t:=List.all_eq_true.1 acE w w1
   simp only[Bool.or_eq_true,Bool.not_eq_true',decide_eq_false_iff_not,decide_eq_true_eq]at t
   rcases t with(t|t)|t
   ·exact absurd (by rw[←e0];exact hb) t
   ·obtain rfl:=toList_inj (b:=⟨#[46]⟩) (t.trans TY.symm)
    rfl
   ·obtain rfl:=toList_inj (b:=⟨#[46,46,46]⟩) (t.trans acF.symm)
    have e1:=w2.get 1 (by decide)
    rw[e1]at fm
    exact absurd fm (by decide)
 unfold iC
 simp only
 rw[BX _ (fun _=>by omega),if_neg (by omega),tZ (Nat.le_of_lt hp) (by omega),Option.getD_none]
 have et:bR O y=dk O {y with p:=y.p+1} 3 0 y.p:=by
  unfold bR
  simp only
  rw[if_neg (by rw[c1];decide),if_neg (by rw[hl];decide),if_neg hd,if_neg (by omega),if_neg (by omega),if_neg (by omega),hf]
 rw[et,if_neg (fun hh=>hh.1 h0)]
theorem bO.sign{O:U}{m:Int}{x:LS}{st:St}(h:Bd O m x st){n:Nat}(ih:∀x st,Bd O m x st->O.size+1<=x.p+n->bO O m x st (fD O n x))(hn:O.size<=x.p+n){w:U}(hw:w∈jS)(hs:Sub O x.p w)(hm:FW O x.p w)
 (r1:¬Sub O x.p N1)(r2:¬Sub O x.p Jk)(hd:afU O x.p):bO O m x st (fD O n (dk O {x with p:=x.p+w.size} 3 0 x.p)):=by
 obtain⟨c1,c2⟩:=afT hw hs
 obtain⟨z0,z1⟩:=lD hw
 have hle:=hs.le
 rcases rL (O:=O) (p:=x.p+w.size) hle (fun e=>by omega)with ie|⟨cz,fm⟩
 ·by_cases hD:w.toList=[46]∧bA O (x.p+1) 46 1∧¬iP O (x.p+2)
  ·obtain⟨d1,d2,d3⟩:=hD
   obtain rfl:=toList_inj (b:=⟨#[46]⟩) (d1.trans TY.symm)
   have l1:=d2.lt
   have hT:An O (x.p+2):=by
    rcases rL (O:=O) (p:=x.p+2) (by omega) (fun e=>by omega)with hc|⟨k1,k2⟩
    ·exact absurd hc d3
    ·exact⟨k1,.inl k2⟩
   have:=hT.lt
   obtain⟨k,rfl⟩:∃k,n=k+1:=⟨n-1,by omega⟩
   have hr:=Oz (O:=O) (y:=dk O {x with p:=x.p+1} 3 0 x.p) l1 (by have:=(d2.byte (by decide)).1;show(O.get! (x.p+1)).toNat=46;omega) hT h.clean
   show bO O m x st (fD O (k+1) (dk O {x with p:=x.p+1} 3 0 x.p))
   rw[fD,if_pos (show(dk O {x with p:=x.p+1} 3 0 x.p).ai=0 from h.clean),hr]
   simp only[Bool.false_eq_true,if_false]
   refine bO.drop (l:=[⟨3,O.extract x.p (x.p+1),0,x.line,(x.p:Int)-x.st+1⟩,⟨3,O.extract (x.p+1) (x.p+1+1),0,x.line,((x.p+1:Nat):Int)-x.st+1⟩]) h (by omega) h.clean rfl ?_ ?_ (by simp) hT (fun _ hg=> ?_)
   ·show(if x.p+1≠x.p+1 then _ else(dk O {x with p:=x.p+1} 3 0 x.p).fst)<=_
    rw[if_neg (fun hh=>hh rfl)]
    exact mg h.fst
   ·show(x.out++[_])++[_]=_
    rw[List.append_assoc];rfl
   ·exact absurd ((hg.on c1).on (pE d2)).jq d3
  ·have hA:Sl O x.p w:=by
    refine⟨hs,hm,ie,r1,r2,fun e X hX=> ?_,fun e hc=> ?_⟩
    ·cases hdc:aE X.ch with
     |false=>rfl
     |true=>
      obtain rfl:=toList_inj (b:=⟨#[46]⟩) (e.trans TY.symm)
      have e46:=hs.get 0 (by decide)
      rw[Nat.add_zero]at e46
      have hb:48<=X.ch∧X.ch<=57:=by unfold aE at hdc;simpa using hdc
      have hX1:=hX.at (by omega)
      have:=(hX1.byte (by omega)).1
      refine absurd (.inr ⟨by rw[e46];rfl,hX1.lt,?_⟩) hd
      unfold qt
      simp only[Bool.and_eq_true,decide_eq_true_eq]
      omega
    ·by_cases h2:iP O (x.p+2)
     ·exact h2
     ·exact absurd ⟨e,hc,h2⟩ hD
   obtain⟨⟨p0,bs,g1,g2,g3,g4⟩,ht⟩:=h.at_ (c1.jq ie)
   obtain⟨N,s,k1,k2,k3⟩:=N0 (nl:=x.ends) h.iv.sz h.pos (g2.same rfl rfl rfl rfl) g1 g3 g4 (ab3 hw) hA
   have e2:(aK O st).1=s:=by rw[cR,h.nl,k1]
   refine bO.put h (.of h k2 ht) ih hn (by omega) c1 c2 e2 k3.gQ k3.ab k3.lc k3.ne ⟨?_,fun hh=>by cases hh⟩ ?_
   ·rw[k3.told]
    show(3,w)=(3,O.extract x.p (x.p+w.size))
    rw[pA hs]
   ·show s.au=(decide ((3:Int)=1)||decide ((3:Int)=2)||(decide ((3:Int)=3)&&c_ (O.extract x.p (x.p+w.size))))
    rw[pA hs]
    rcases k3.nl with⟨a,b⟩|⟨a,b⟩
    ·rw[a,b,k2.nl];rfl
    ·rw[a,b];rfl
 ·exact bO.drop h (by omega) h.clean rfl (mg h.fst) rfl (by simp) ⟨cz,.inl fm⟩ (fun hm hg=>absurd (hg.on c1) (An.lH cz fm))
def mh(b:Nat):Bool:=decide (b=46)||decide (b=95)||(decide (48<=b)&&decide (b<=57))||(decide (97<=b|||32)&&decide (b|||32<=122))
theorem pF{O:U}{f:Nat}{hex:Bool}:∀(n p:Nat),O.size<=p+n->p<=O.size->p<=fk O f hex n p∧fk O f hex n p<=O.size∧(fk O f hex n p<O.size->mh (O.get! (fk O f hex n p)).toNat=false)
 |0,p,h1,h2=>⟨Nat.le_refl _,h2,fun h=>by have h:p<O.size:=h;omega⟩
 |n+1,p,h1,h2=>by
  rw[fk]
  by_cases hp:p<O.size
  ·rw[if_pos hp]
   simp only
   generalize(if f<p then(O.get! (p-1)).toNat|||32 else 0)=l
   split
   ·obtain⟨a,b,c⟩:=pF (O:=O) (f:=f) (hex:=hex) n (p+1) (by omega) hp
    exact⟨by omega,b,c⟩
   ·rename_i hc
    refine⟨Nat.le_refl _,h2,fun _=> ?_⟩
    unfold mh
    unfold qt at hc
    simp only[Bool.and_eq_true,decide_eq_true_eq,not_or]at hc
    obtain⟨_,k1,k2,k3,k4⟩:=hc
    simp only[Bool.or_eq_false_iff,decide_eq_false_iff_not,Bool.and_eq_false_iff]
    exact⟨⟨⟨k1,k2⟩,by omega⟩,by omega⟩
  ·rw[if_neg hp]
   exact⟨Nat.le_refl _,h2,fun h=>absurd h hp⟩
theorem Yy:((List.range 128).all fun n=>mh n||(!fS (n:Nat)&& !tH (n:Nat)&& !decide (ay (n:Nat)=101)&& !decide (ay (n:Nat)=112)&& !decide (n=105)&& !decide (n=46)&& !decide (ay (n:Nat)=120)&& !decide (ay (n:Nat)=111)&& !decide (ay (n:Nat)=98)))=true:=by kernel_rfl
theorem BY{O:U}{e:Nat}{ex:kB}{im:Bool}(ie:iP O e)(h:∀r w,bA O e r w->r<128∧mh (O.get! e).toNat=false)(hx:∀c,ex=some (c,[],[])->False):mC O e ex im:=by
 refine⟨ie,fun r w hc=> ?_,fun c hc=>(hx c hc).elim⟩
 obtain⟨h1,h2⟩:=h r w hc
 have hb:=(hc.byte h1).1
 have t:=List.all_eq_true.1 Yy (O.get! e).toNat (List.mem_range.2 (by omega))
 rw[h2]at t
 simp only[Bool.false_or,Bool.and_eq_true,Bool.not_eq_true',decide_eq_false_iff_not]at t
 rw[←hb]at t
 obtain⟨⟨⟨⟨⟨⟨⟨⟨t1,t2⟩,t3⟩,t4⟩,t5⟩,t6⟩,t7⟩,t8⟩,t9⟩:=t
 exact⟨t1,t2,t3,t4,by omega,by omega,t7,t8,t9⟩
theorem bO.num{O:U}{m:Int}{x:LS}{st:St}(h:Bd O m x st){n:Nat}(ih:∀x st,Bd O m x st->O.size+1<=x.p+n->bO O m x st (fD O n x))(hn:O.size<=x.p+n){e:Nat}(he:x.p<=e∧e<=O.size)(oJ:e<O.size->mh (O.get! e).toNat=false∧(Utf8.decode O e).1<128)
 (hk:0<=cE (O.extract x.p e)):bO O m x st (fD O n (dk O {x with p:=e} 2 (cE (O.extract x.p e)) x.p)):=by
 have hts:(O.extract x.p e).size=e-x.p:=aA _ _ _ he.2
 have sC:x.p<e:=by
  by_cases h0:x.p=e
  ·have:(O.extract x.p e).size=0:=by omega
   unfold cE at hk
   rw[if_pos this]at hk
   exact absurd hk (by decide)
  ·omega
 have hS:Sub O x.p (O.extract x.p e):=⟨by omega,fun j hj=>by rw[a7 _ _ _ _ he.2 (by omega)]⟩
 have UR:x.p+(O.extract x.p e).size=e:=by omega
 have TZ:=N_ (s:=O.extract x.p e) (by have:=h.iv.sz;omega) hk
 have QE:∀c∈bX (O.extract x.p e),10<c∧c<128:=by
  rcases TZ with⟨P,b1,b2,b3,b4⟩|⟨d2,ex,im,b1,b2,b3,b4,b5,b6⟩
  ·rw[←b2];exact b1.ach (by rw[b2];exact iA _)
  ·rw[b1]
   exact K8 (base:=10) (pt:=true) (im:=im) (d2:=d2) (ex:=ex) b2 b4 (fun y hy=>by have:=l9 (b2 y hy);omega)
 have c1:=S8 hS (fun c hc=>by have:=QE c hc;omega)
 rw[UR]at c1
 have n10:∀c∈bX (O.extract x.p e),c≠10:=fun c hc Rj=>by have:=QE c hc;omega
 have aiC:cE (O.extract x.p e)<=9:=by
  rcases TZ with⟨P,b1,b2,b3,b4⟩|⟨d2,ex,im,b1,b2,b3,b4,b5,b6⟩
  ·rw[←b4];have:=(K9 P.pt P.ex P.im).2;show d_ _ _ _<=9;omega
  ·rw[←b6];have:=(K9 true ex im).2;omega
 rcases rL (O:=O) (p:=e) he.2 (fun e0=>by omega)with ie|⟨cz,fm⟩
 ·have hE:∀r w,bA O e r w->r<128∧mh (O.get! e).toNat=false:=fun r w hc=>by
   have hl:=hc.lt
   have:=hc.clear.2.1
   unfold ba at this
   rw[if_pos hl]at this
   have:=oJ hl
   exact⟨by omega,this.1⟩
  have afV:∀(pre:Int) (pt:Bool) (ex:kB) (c:Int),j_ pre pt ex=true->ex=some (c,[],[])->False:=fun pre pt ex c h1 h2=>by
   subst h2
   have e:j_ pre pt (some (c,[],[]))=(!(decide (ay c=101∧pre≠0∧pre≠48))&& !(decide (ay c=112∧pre≠120))&&false):=rfl
   rw[e,Bool.and_false]at h1
   cases h1
  obtain⟨⟨p0,bs,g1,g2,g3,g4⟩,ht⟩:=h.at_ (c1.jq ie)
  have fin:∀N s,(aK O st).1=s->wz O x.p {st with au:=false} N->XS O N x.p e true (cE (O.extract x.p e)) s->bO O m x st (fD O n (dk O {x with p:=e} 2 (cE (O.extract x.p e)) x.p)):=fun N s e1 hN R=>by
   refine bO.put h (.of h hN ht) ih hn sC c1 n10 e1 R.gQ (R.Dd rfl) R.lc (by rw[R.tok];decide) ?_ R.nl
   have:=FL R.tok R.kind (by rw[R.bad];rfl) hk aiC
   rw[R.lit]at this
   exact this
  rcases TZ with⟨P,b1,b2,b3,b4⟩|⟨d2,ex,im,b1,b2,b3,b4,b5,b6⟩
  ·have hx:j_ P.pre P.pt P.ex=true:=by
    unfold cI.ok at b3
    simp only[Bool.and_eq_true]at b3
    exact b3.1.1.2
   obtain⟨N,s,k1,k2,k3⟩:=S9 (nl:=x.ends) h.iv.sz h.pos (g2.same rfl rfl rfl rfl) g1 g3 g4 b1 (by rw[b2];exact c1) (BY ie hE (fun c=>afV _ _ _ c hx))
   rw[b3,b4]at k3
   exact fin N s (by rw[cR,h.nl];exact k1) k2 k3
  ·have hx:j_ 0 true ex=true:=by
    simp only[Bool.and_eq_true]at b5
    exact b5.1.2
   rw[b1]at c1
   obtain⟨N,s,k1,k2,k3⟩:=Gu (nl:=x.ends) h.iv.sz h.pos (g2.same rfl rfl rfl rfl) g1 g3 g4 c1 b2 b3 b4 (BY ie hE (fun c=>afV _ _ _ c hx))
   rw[b5,b6]at k3
   exact fin N s (by rw[cR,h.nl];exact k1) k2 k3
 ·exact bO.drop h (by omega) h.clean rfl (mg h.fst) rfl (by simp) ⟨cz,.inl fm⟩ (fun hm hg=>absurd (hg.on c1) (An.lH cz fm))
def Hn(S:U)(b:Int):Nat->Nat->Int->Option Int
 |0,_,x=>some x
 |n+1,p,x=>if p<S.size∧dO (S.get! p).toNat<b then Hn S b n (p+1) (x*b+dO (S.get! p).toNat)else none
theorem qJ{S:U}{b:Int}(hb:b<=16):∀(n:Nat) (cs:List Int) (x:Int) (p:Nat),Cl S p cs S.size->(bq b n x cs).map (·.1)=Hn S b n p x
 |0,cs,x,p,_=>rfl
 |n+1,cs,x,p,h=>by
  cases h with
  |nil=>simp[bq,Hn]
  |@cons _ w _ c cs h1 h2=>
   have hl:=h1.lt
   have key:dO c<b↔dO (S.get! p).toNat<b:=by
    rcases h1.ch with⟨a1,a2,a3,a4⟩|⟨a1,a2,a3,a4,a5⟩
    ·rw[a3]
    ·have d3:=lW S p a1
     have e1:dO c=99:=by unfold dO;rw[if_neg (by omega),if_neg (by omega),if_neg (by omega)]
     have e2:dO (S.get! p).toNat=99:=by unfold dO;rw[if_neg (by omega),if_neg (by omega),if_neg (by omega)]
     rw[e1,e2]
   simp only[bq,Hn]
   by_cases hd:dO c<b
   ·have hdi:0<=dO c∧dO c<=15∧48<=c∧c<=102:=by
     rcases tA c with h|h
     ·exact h
     ·omega
    obtain⟨e1,e2⟩:=h1.byte (by omega)
    subst e2
    rw[if_pos hd,if_pos ⟨hl,key.1 hd⟩,←e1]
    exact qJ hb n cs _ _ h2
   ·rw[if_neg hd,if_neg (fun h=>hd (key.2 h.2))]
    rfl
theorem T0:((List.range 256).all fun n=>(decide (0<=Lib.indexByte fT.data.toList (UInt8.ofNat n))==decide (dO (n:Nat)<16))&&(decide (0<=Lib.indexByte g_.data.toList (UInt8.ofNat n))==decide (dO (n:Nat)<8))&&(!decide (dO (n:Nat)<16)||rz (UInt8.ofNat n)==dO (n:Nat)))=true:=by kernel_rfl
theorem T3(x:UInt8):(cJ fT x=true↔dO x.toNat<16)∧(cJ g_ x=true↔dO x.toNat<8)∧(dO x.toNat<16->rz x=dO x.toNat):=by
 have:=List.all_eq_true.1 T0 x.toNat (List.mem_range.2 x.toNat_lt)
 rw[UInt8.ofNat_toNat]at this
 simp only[Bool.and_eq_true,beq_iff_eq,Bool.or_eq_true,Bool.not_eq_true',decide_eq_false_iff_not]at this
 obtain⟨⟨h1,h2⟩,h3⟩:=this
 unfold cJ
 refine⟨by rw[h1];simp,by rw[h2];simp,fun h=> ?_⟩
 rcases h3 with h3|h3
 ·exact absurd h h3
 ·exact h3
theorem GR(S:U)(p e j:Nat)(he:e<=S.size)(hj:p+j<e):(S.extract p e).get! j=S.get! (p+j):=by
 have hs:(S.extract p e).size=min e S.size-p:=ByteArray.size_extract
 rw[dP _ _ (by omega),dP _ _ (by omega)]
 exact ByteArray.getElem_extract (by omega)
theorem BZ{S B:U}{b:Int}(hB:(b=8∧B=g_)∨(b=16∧B=fT))(p e:Nat)(he:e<=S.size):∀(n j:Nat) (x:Int),p+j+n=e->
 (rv (S.extract p e) B n j=true->Hn S b n (p+j) x=some (uP (S.extract p e) b n j x))∧(rv (S.extract p e) B n j=false->Hn S b n (p+j) x=none)
 |0,j,x,h=>⟨fun _=>rfl,fun h=>by cases h⟩
 |n+1,j,x,h=>by
  have hs:(S.extract p e).size=min e S.size-p:=ByteArray.size_extract
  have hg:=GR S p e j he (by omega)
  obtain⟨d1,d2,d3⟩:=T3 (S.get! (p+j))
  have key:cJ B (S.get! (p+j))=true↔dO (S.get! (p+j)).toNat<b:=by
   rcases hB with⟨rfl,rfl⟩|⟨rfl,rfl⟩
   ·exact d2
   ·exact d1
  have amj:b<=16:=by rcases hB with⟨rfl,_⟩|⟨rfl,_⟩<;>decide
  simp only[rv,Hn,uP,if_pos (show j<(S.extract p e).size by omega)]
  rw[hg]
  by_cases hb:cJ B (S.get! (p+j))=true
  ·have hd:=key.1 hb
   rw[if_pos hb,if_pos ⟨by omega,hd⟩,d3 (by omega)]
   exact BZ hB p e he n (j+1) _ (by omega)
  ·rw[if_neg hb,if_neg (fun h=>hb (key.2 h.2))]
   exact⟨fun h=>(by cases h),fun _=>rfl⟩
theorem B0{S:U}{b:Int}:∀(n p:Nat) (x:Int),S.size<p+n->p<=S.size->Hn S b n p x=none
 |0,p,x,h,h2=>by omega
 |n+1,p,x,h,h2=>by
  simp only[Hn]
  split
  ·exact B0 n (p+1) _ (by omega) (by omega)
  ·rfl
theorem OA{s:U}(h:0<s.size):s.toList.isEmpty=false:=by
 have e:s.toList=s.data.toList:=ByteArray.toList_eq s
 rw[e]
 have hl:s.data.toList.length=s.size:=bu s
 cases hd:s.data.toList with
 |nil=>rw[hd]at hl;simp at hl;omega
 |cons a l=>rfl
theorem nu{S:U}{size base digits:Nat}(eJ:(size=4∧base=8∧digits=1)∨((size=4∨size=6∨size=10)∧base=16∧digits=2)):
 dn S size base digits=0↔∀v,Hn S base (size-digits) digits 0=some v->(base=8∧v>255)∨(6<=size∧dY v):=by
 unfold dn
 by_cases hs:S.size<size
 ·rw[if_pos hs]
  have hd:digits<=S.size∨S.size<digits:=by omega
  constructor
  ·intro _ v hv
   exfalso
   rcases hd with hd|hd
   ·rw[B0 _ _ _ (by omega) hd]at hv;cases hv
   ·have:size-digits=(size-digits-1)+1:=by omega
    rw[this]at hv
    simp only[Hn]at hv
    rw[if_neg (by omega)]at hv;cases hv
  ·intro _;rfl
 ·rw[if_neg hs]
  have hB:((base:Int)=8∧(if base=8 then g_ else fT)=g_)∨((base:Int)=16∧(if base=8 then g_ else fT)=fT):=by
   rcases eJ with⟨_,rfl,_⟩|⟨_,rfl,_⟩
   ·exact .inl ⟨rfl,rfl⟩
   ·exact .inr ⟨rfl,rfl⟩
  have pJ:(S.extract digits size).size=size-digits:=by rw[ByteArray.size_extract];omega
  have key:=BZ (S:=S) hB digits size (by omega) (size-digits) 0 0 (by omega)
  rw[Nat.add_zero]at key
  have ha:gO (S.extract digits size) (if base=8 then g_ else fT)=rv (S.extract digits size) (if base=8 then g_ else fT) (size-digits) 0:=by
   unfold gO
   rw[pJ,OA (by rw[pJ];omega)];simp
  rw[ha,pJ]
  cases hb:rv (S.extract digits size) (if base=8 then g_ else fT) (size-digits) 0 with
  |false=>
   rw[if_pos rfl,key.2 hb]
   exact⟨fun _ v hv=>by(cases hv),fun _=>rfl⟩
  |true=>
   rw[if_neg (by simp),key.1 hb]
   constructor
   ·intro h v hv
    cases hv
    by_cases hc:(base=8∧uP (S.extract digits size) base (size-digits) 0 0>255)∨(6<=size∧dY (uP (S.extract digits size) base (size-digits) 0 0))
    ·exact hc
    ·rw[if_neg hc]at h;omega
   ·intro h
    rw[if_pos (h _ rfl)]
theorem T4:((List.range 256).all fun n=>decide (0<=Lib.indexByte Jp.data.toList (UInt8.ofNat n))==(n==97||n==98||n==102||n==110||n==114||n==116||n==118||n==92))=true:=by kernel_rfl
theorem qe(x:UInt8):cJ Jp x=true↔x.toNat=97∨x.toNat=98∨x.toNat=102∨x.toNat=110∨x.toNat=114∨x.toNat=116∨x.toNat=118∨x.toNat=92:=by
 have:=List.all_eq_true.1 T4 x.toNat (List.mem_range.2 x.toNat_lt)
 rw[UInt8.ofNat_toNat]at this
 unfold cJ
 rw[beq_iff_eq.1 this]
 simp[or_assoc]
theorem qf(q c:Int):qG q c=true↔c=q∨c=97∨c=98∨c=102∨c=110∨c=114∨c=116∨c=118∨c=92:=by simp[qG,or_assoc]
theorem lI(c:Int):uM c=true↔48<=c∧c<=55:=by
 simp[uM]
 omega
theorem ub{S:U}{b:Int}(hb:b<=16){n:Nat}{cs:List Int}{p:Nat}(h:Cl S p cs S.size)(bad:Int->Prop)[DecidablePred bad]:
 ((bq b n 0 cs).bind fun r=>if bad r.1 then none else some r.2)=none↔∀v,Hn S b n p 0=some v->bad v:=by
 rw[←qJ hb n cs 0 p h]
 cases bq b n 0 cs with
 |none=>simp
 |some vr=>
  obtain⟨v,r⟩:=vr
  simp only[Option.bind_some,Option.map_some,Option.some.injEq]
  by_cases hb:bad v
  ·rw[if_pos hb];simp[hb]
  ·rw[if_neg hb];simp[hb]
theorem Cl.head{O:U}{p q:Nat}{c:Int}{cs:List Int}(h:Cl O p (c::cs) q):∃w,bA O p c w∧Cl O (p+w) cs q:=by
 cases h with
 |cons h1 h2=>exact⟨_,h1,h2⟩
theorem Cl.nil_eq{O:U}{p q:Nat}{cs:List Int}(h:Cl O p cs q)(hc:cs=[]):p=q:=by
 cases h with
 |nil=>rfl
 |cons h1 h2=>cases hc
theorem OB{S:U}{q:Int}{cs:List Int}(hq:0<=q∧q<128)(h:Cl S 1 cs S.size)(L3:cs≠[]):dR S q=0↔oK q cs=none:=by
 cases cs with
 |nil=>exact absurd rfl L3
 |cons c cs=>
  obtain⟨w,h1,h2⟩:=h.head
  have hl:=h1.lt
  have hc:(c<128∧c=((S.get! 1).toNat:Int)∧w=1)∨(128<=c∧128<=(S.get! 1).toNat):=by
   rcases h1.ch with⟨a1,a2,a3,a4⟩|⟨a1,a2,a3,a4,a5⟩
   ·left;omega
   ·have d3:=lW S 1 a1
    right;omega
  have hC:=Cl.cons h1 h2
  unfold dR
  simp only[oK]
  by_cases k1:qG q c=true
  ·rw[if_pos k1]
   rw[qf]at k1
   rw[if_pos (by rw[qe];omega)]
   simp
  rw[if_neg k1]
  rw[qf]at k1
  rw[if_neg (by rw[qe];omega)]
  by_cases k3:c=120
  ·have ho:¬uM c=true:=by rw[lI];omega
   obtain⟨_,hw⟩:c<128∧w=1:=by omega
   subst hw
   rw[if_neg ho,if_pos k3,if_pos (by omega)]
   have e1:=nu (S:=S) (size:=4) (base:=16) (digits:=2) (.inr ⟨.inl rfl,rfl,rfl⟩)
   have e2:=ub (b:=16) (by decide) (n:=2) h2 (fun _=>False)
   simp only[if_false]at e2
   rw[e1,e2]
   exact⟨fun h v hv=>by
    rcases h v hv with h|h
    ·exact absurd h.1 (by decide)
    ·exact absurd h.1 (by decide),fun h v hv=>(h v hv).elim⟩
  by_cases k4:c=117
  ·have ho:¬uM c=true:=by rw[lI];omega
   obtain⟨_,hw⟩:c<128∧w=1:=by omega
   subst hw
   rw[if_neg ho,if_neg k3,if_pos k4,if_neg (by omega),if_pos (by omega)]
   have e1:=nu (S:=S) (size:=6) (base:=16) (digits:=2) (.inr ⟨.inr (.inl rfl),rfl,rfl⟩)
   have e2:=ub (b:=16) (by decide) (n:=4) h2 dY
   rw[e1,e2]
   exact⟨fun h v hv=>by
    rcases h v hv with h|h
    ·exact absurd h.1 (by decide)
    ·exact h.2,fun h v hv=> .inr ⟨by decide,h v hv⟩⟩
  by_cases k5:c=85
  ·have ho:¬uM c=true:=by rw[lI];omega
   obtain⟨_,hw⟩:c<128∧w=1:=by omega
   subst hw
   rw[if_neg ho,if_neg k3,if_neg k4,if_pos k5,if_neg (by omega),if_neg (by omega),if_pos (by omega)]
   have e1:=nu (S:=S) (size:=10) (base:=16) (digits:=2) (.inr ⟨.inr (.inr rfl),rfl,rfl⟩)
   have e2:=ub (b:=16) (by decide) (n:=8) h2 dY
   rw[e1,e2]
   exact⟨fun h v hv=>by
    rcases h v hv with h|h
    ·exact absurd h.1 (by decide)
    ·exact h.2,fun h v hv=> .inr ⟨by decide,h v hv⟩⟩
  by_cases ho:uM c=true
  ·have UO:=ho
   rw[lI]at UO
   rw[if_pos ho,if_neg (by omega),if_neg (by omega),if_neg (by omega),if_pos (by omega)]
   have e1:=nu (S:=S) (size:=4) (base:=8) (digits:=1) (.inl ⟨rfl,rfl,rfl⟩)
   have e2:=ub (b:=8) (by decide) (n:=3) hC (fun v=>v>255)
   rw[e1,e2]
   exact⟨fun h v hv=>by
    rcases h v hv with h|h
    ·exact h.2
    ·exact absurd h.1 (by decide),fun h v hv=> .inl ⟨rfl,h v hv⟩⟩
  ·have UO:=ho
   rw[lI]at UO
   rw[if_neg ho,if_neg k3,if_neg k4,if_neg k5,if_neg (by omega),if_neg (by omega),if_neg (by omega),if_neg (by omega)]
   simp
theorem uc{s:U}{i:Nat}(h:s.size<=i):s.get! i=0:=by
 rw[dM,List.getD_eq_getElem?_getD,List.getElem?_eq_none (by rw[bu];exact h)];rfl
theorem eD{O:U}{e:Nat}(he:e<=O.size)(j:Nat):(O.extract e O.size).get! j=O.get! (e+j):=by
 have hs:=aA O e O.size (Nat.le_refl _)
 by_cases h:j<O.size-e
 ·exact a7 _ _ _ _ (Nat.le_refl _) h
 ·rw[uc (by omega),uc (by omega)]
theorem T5{O:U}{e:Nat}(he:e<=O.size)(i:Nat):Utf8.decode (O.extract e O.size) i=Utf8.decode O (e+i):=by
 have hs:=aA O e O.size (Nat.le_refl _)
 rw[decode_at,decode_at,eD he,eD he,eD he,eD he,hs]
 simp only[Nat.add_assoc]
 rw[show O.size-e-i=O.size-(e+i)by omega]
theorem Yz{O:U}{e:Nat}(he:e<=O.size){p q:Nat}{cs:List Int}(h:Cl O p cs q):∀i,p=e+i->Cl (O.extract e O.size) i cs (q-e):=by
 have hs:=aA O e O.size (Nat.le_refl _)
 induction h with
 |nil=>intro i hi;rw[hi,Nat.add_sub_cancel_left];exact .nil
 |@cons p w q r cs h1 h2 ih=>
  intro i hi
  refine .cons (w:=w) ⟨by have:=h1.lt;omega,?_⟩ (ih (i+w) (by omega))
  rw[eD he,T5 he,←hi]
  exact h1.ch
theorem GS{S:U}{b:Int}(hb:b<=16):∀(n p:Nat) (x v:Int),Hn S b n p x=some v->p<=S.size->p+n<=S.size∧∃L:List Int,L.length=n∧(∀c∈L,48<=c∧c<=102)∧(∀j c,L[j]? =some c->c=((S.get! (p+j)).toNat:Int))∧∀rest,bq b n x (L++rest)=some (v,rest)
 |0,p,x,v,h,hp=>by
  simp only[Hn,Option.some.injEq]at h
  subst h
  exact⟨hp,[],rfl,fun c hc=>absurd hc List.not_mem_nil,fun j c h=>by simp at h,fun rest=>rfl⟩
 |n+1,p,x,v,h,hp=>by
  simp only[Hn]at h
  split at h
  ·rename_i hc
   obtain⟨h1,L,l1,l2,l3,l4⟩:=GS hb n (p+1) _ v h hc.1
   refine⟨by omega,((S.get! p).toNat:Int)::L,by simp[l1],fun c hm=> ?_,fun j c hj=> ?_,fun rest=> ?_⟩
   ·rcases List.mem_cons.1 hm with rfl|hm
    ·rcases tA ((S.get! p).toNat:Int)with k|k
     ·omega
     ·have:=hc.2;omega
    ·exact l2 c hm
   ·cases j with
    |zero=>simp only[List.getElem?_cons_zero,Option.some.injEq]at hj;exact hj.symm
    |succ j=>
     rw[List.getElem?_cons_succ]at hj
     rw[l3 j c hj,show p+1+j=p+(j+1)by omega]
   ·show bq b (n+1) x (((S.get! p).toNat:Int)::(L++rest))=_
    simp only[bq]
    rw[if_pos hc.2]
    exact l4 rest
  ·cases h
theorem acG{T:U}{k:Nat}{L:List Int}(hle:k+L.length<=T.size)(h:∀j c,L[j]? =some c->c=((T.get! (k+j)).toNat:Int)):Hj T k L:=⟨hle,fun j c hj=>(h j c hj).symm⟩
theorem GU{O:U}{e:Nat}(he:e<O.size){q:Int}(hq:q=34∨q=39)(h:dR (O.extract e O.size) q≠0):
 ∃ds,Cl O (e+1) ds (e+(dR (O.extract e O.size) q).toNat)∧(∀c∈ds,c≠10)∧(∀rest,oK q (ds++rest)=some rest)∧2<=(dR (O.extract e O.size) q).toNat∧e+(dR (O.extract e O.size) q).toNat<=O.size:=by
 have hs:=aA O e O.size (Nat.le_refl _)
 have DQ:=Nat.le_of_lt he
 have g1:=eD DQ 1
 have tl:∀(size base digits:Nat),((size=4∧base=8∧digits=1)∨((size=4∨size=6∨size=10)∧base=16∧digits=2))->dn (O.extract e O.size) size base digits≠0->
  dn (O.extract e O.size) size base digits=size∧e+size<=O.size∧∃L v,L.length=size-digits∧(∀c∈L,48<=c∧c<=102)∧Hj O (e+digits) L∧(∀rest,bq base (size-digits) 0 (L++rest)=some (v,rest))∧(base=8->¬v>255)∧(6<=size->¬dY v):=fun size base digits eJ h0=>by
  have h1:=mt (nu (S:=O.extract e O.size) eJ).2 h0
  have e1:dn (O.extract e O.size) size base digits=0∨dn (O.extract e O.size) size base digits=size:=by
   unfold dn
   generalize(if base=8 then g_ else fT)=B
   split
   ·exact .inl rfl
   ·split
    ·exact .inl rfl
    ·split
     ·exact .inl rfl
     ·exact .inr rfl
  have e1:=e1.resolve_left h0
  simp only[Classical.not_forall,not_or,not_and]at h1
  obtain⟨v,hv,k1,k2⟩:=h1
  have hb:(base:Int)<=16:=by omega
  have hd:digits<=(O.extract e O.size).size:=by
   by_cases hd:digits<=(O.extract e O.size).size
   ·exact hd
   ·exfalso
    have:size-digits=(size-digits-1)+1:=by omega
    rw[this]at hv
    simp only[Hn]at hv
    rw[if_neg (by omega)]at hv;cases hv
  obtain⟨l0,L,l1,l2,l3,l4⟩:=GS hb _ _ _ _ hv hd
  refine⟨e1,by omega,L,v,l1,l2,acG (by omega) (fun j c hj=> ?_),l4,k1,k2⟩
  rw[l3 j c hj,eD DQ,Nat.add_assoc]
 have one:∀c:Int,(((O.extract e O.size).get! 1).toNat:Int)=c->0<c->c<128->e+1<O.size∧bA O (e+1) c 1:=fun c hc c0 c1=>by
  rw[g1]at hc
  have bz:e+1<O.size:=by
   by_cases bz:e+1<O.size
   ·exact bz
   ·rw[uc (by omega)]at hc
    exact absurd (show((0:Nat):Int)=c from hc) (by omega)
  have:=cM bz (by omega) (by omega)
  rw[hc]at this
  exact⟨bz,this⟩
 unfold dR at h⊢
 by_cases k1:cJ Jp ((O.extract e O.size).get! 1)=true∨(((O.extract e O.size).get! 1).toNat:Int)=q
 ·rw[if_pos k1]
  rw[qe]at k1
  obtain⟨o1,o2⟩:=one _ rfl (by omega) (by omega)
  have acH:qG q (((O.extract e O.size).get! 1).toNat:Int)=true:=by rw[qf];omega
  refine⟨[(((O.extract e O.size).get! 1).toNat:Int)],pE o2,fun c hc=> ?_,fun rest=> ?_,by decide,by show e+2<=_;omega⟩
  ·simp only[List.mem_singleton]at hc;omega
  ·show oK q (_::rest)=_
   simp only[oK]
   rw[if_pos acH]
 rw[if_neg k1]at h⊢
 have YA:qG q (((O.extract e O.size).get! 1).toNat:Int)=false:=by
  rw[qe]at k1
  cases acH:qG q (((O.extract e O.size).get! 1).toNat:Int)with
  |false=>rfl
  |true=>rw[qf]at acH;omega
 have hex:∀(size:Nat) (c:Int),(size=4∧c=120)∨(size=6∧c=117)∨(size=10∧c=85)->(((O.extract e O.size).get! 1).toNat:Int)=c->dn (O.extract e O.size) size 16 2≠0->
  ∃ds,Cl O (e+1) ds (e+(dn (O.extract e O.size) size 16 2).toNat)∧(∀c∈ds,c≠10)∧(∀rest,oK q (ds++rest)=some rest)∧2<=(dn (O.extract e O.size) size 16 2).toNat∧e+(dn (O.extract e O.size) size 16 2).toNat<=O.size:=fun size c eJ hc h0=>by
  obtain⟨t1,t2,L,v,t3,t4,t5,t6,t7,t8⟩:=tl size 16 2 (.inr ⟨by omega,rfl,rfl⟩) h0
  obtain⟨o1,o2⟩:=one c hc (by omega) (by omega)
  have cl:=Ds t5 (fun x hx=>by have:=t4 x hx;omega)
  rw[t1]
  refine⟨c::L,.cons o2 (by rw[show e+(size:Int).toNat=e+2+L.length by omega];exact cl),fun y hy=> ?_,fun rest=> ?_,by omega,by omega⟩
  ·rcases List.mem_cons.1 hy with rfl|hy
   ·omega
   ·have:=t4 y hy;omega
  ·rw[hc]at YA
   have ho:¬uM c=true:=by rw[lI];omega
   have ht:=t6 rest
   show oK q (c::(L++rest))=some rest
   simp only[oK]
   rw[if_neg (by rw[YA];decide),if_neg ho]
   rcases eJ with⟨rfl,rfl⟩|⟨rfl,rfl⟩|⟨rfl,rfl⟩
   ·rw[if_pos rfl]
    have ht:bq 16 2 0 (L++rest)=some (v,rest):=ht
    rw[ht];rfl
   ·rw[if_neg (by decide),if_pos rfl]
    have ht:bq 16 4 0 (L++rest)=some (v,rest):=ht
    rw[ht]
    simp only[Option.bind_some]
    rw[if_neg (t8 (by decide))]
   ·rw[if_neg (by decide),if_neg (by decide),if_pos rfl]
    have ht:bq 16 8 0 (L++rest)=some (v,rest):=ht
    rw[ht]
    simp only[Option.bind_some]
    rw[if_neg (t8 (by decide))]
 by_cases k2:((O.extract e O.size).get! 1).toNat=120
 ·rw[if_pos k2]at h⊢
  exact hex 4 120 (.inl ⟨rfl,rfl⟩) (by omega) h
 rw[if_neg k2]at h⊢
 by_cases k3:((O.extract e O.size).get! 1).toNat=117
 ·rw[if_pos k3]at h⊢
  exact hex 6 117 (.inr (.inl ⟨rfl,rfl⟩)) (by omega) h
 rw[if_neg k3]at h⊢
 by_cases k4:((O.extract e O.size).get! 1).toNat=85
 ·rw[if_pos k4]at h⊢
  exact hex 10 85 (.inr (.inr ⟨rfl,rfl⟩)) (by omega) h
 rw[if_neg k4]at h⊢
 by_cases k5:48<=((O.extract e O.size).get! 1).toNat∧((O.extract e O.size).get! 1).toNat<=55
 ·rw[if_pos k5]at h⊢
  obtain⟨t1,t2,L,v,t3,t4,t5,t6,t7,t8⟩:=tl 4 8 1 (.inl ⟨rfl,rfl,rfl⟩) h
  have cl:=Ds t5 (fun x hx=>by have:=t4 x hx;omega)
  rw[t1]
  refine⟨L,by rw[show e+((4:Nat):Int).toNat=e+1+L.length by omega];exact cl,fun y hy=>by have:=t4 y hy;omega,fun rest=> ?_,by omega,by omega⟩
  cases L with
  |nil=>simp at t3
  |cons c L=>
   have hc:((O.extract e O.size).get! 1).toNat=(c:Int):=by
    have:=t5.get 0 c rfl
    rw[g1]
    rw[Nat.add_zero]at this
    exact this
   rw[hc]at YA
   have ho:uM c=true:=by rw[lI];omega
   have ht:bq 8 3 0 (c::L++rest)=some (v,rest):=t6 rest
   show oK q (c::(L++rest))=some rest
   simp only[oK]
   rw[if_neg (by rw[YA];decide),if_pos ho]
   rw[List.cons_append]at ht
   rw[ht]
   simp only[Option.bind_some]
   rw[if_neg (t7 rfl)]
 ·rw[if_neg k5]at h
  exact absurd rfl h
def acI(O:U)(q:Int)(c p:Nat):Prop:=∃cs k e,Hi q cs k∧Cl O p cs e∧(e=O.size∨bA O e 10 1∨(q=39∧bA O e 39 1∧c+k≠1)∨∃ds,bA O e 92 1∧Cl O (e+1) ds O.size∧oK q ds=none)
theorem rT.step{O:U}{p w:Nat}{r:Int}(h:rT O p)(hc:bA O p r w):rT O (p+w):=h.on (pE hc)
theorem mi{O:U}{q:Int}{f:Nat}(hq:q=34∨q=39):∀(n c:Nat) (X:LS),X.ai=0->1<=X.p->X.p<=O.size->O.size+1<=X.p+n->
 (∃cs k e,Hi q cs k∧Cl O X.p cs e∧bA O e q 1∧(∀y∈cs,y≠10)∧(q=39->c+k=1)∧bE O q f n c X=dk O {X with p:=e+1} 2 (if q=34 then 4 else 3) f)∨
 ((bE O q f n c X).ai=1∧(bE O q f n c X).out=X.out∧(rT O X.p->acI O q c X.p))
 |0,c,X,h0,h1,h2,h3=>by omega
 |n+1,c,X,h0,h1,h2,h3=>by
  rw[bE,if_pos h0]
  by_cases hb:ca O X.p=true
  ·rw[if_pos hb]
   have bz:X.p<O.size:=by unfold ca at hb;simp only[Bool.and_eq_true,decide_eq_true_eq]at hb;exact hb.1
   exact .inr ⟨rfl,rfl,fun hg=>absurd hg (An.lH bz hb)⟩
  rw[if_neg hb]
  by_cases bz:X.p<O.size
  ·have hc:=kD bz (by simpa using hb) (fun e=>by omega)
   have hw:=hc.w
   by_cases gI:ba O X.p=10
   ·rw[if_pos (.inr gI)]
    have rO:=(hc.byte (by omega)).2
    rw[gI,rO]at hc
    exact .inr ⟨rfl,rfl,fun _=>⟨[],0,X.p,.nil,.nil,.inr (.inl hc)⟩⟩
   rw[if_neg (by omega)]
   by_cases T6:ba O X.p=q
   ·rw[if_pos T6]
    have rO:=(hc.byte (by omega)).2
    rw[T6,rO]at hc
    rcases hq with rfl|rfl
    ·rw[if_pos rfl]
     exact .inl ⟨[],0,X.p,.nil,.nil,hc,fun y hy=>absurd hy List.not_mem_nil,fun e=>absurd e (by decide),rfl⟩
    ·rw[if_neg (by decide)]
     by_cases Ay:c=1
     ·rw[if_pos Ay]
      exact .inl ⟨[],0,X.p,.nil,.nil,hc,fun y hy=>absurd hy List.not_mem_nil,fun _=>by omega,rfl⟩
     ·rw[if_neg Ay]
      exact .inr ⟨rfl,rfl,fun _=>⟨[],0,X.p,.nil,.nil,.inr (.inr (.inl ⟨rfl,hc,by omega⟩))⟩⟩
   rw[if_neg T6]
   by_cases O2:ba O X.p=92
   ·rw[if_pos O2]
    have rO:=(hc.byte (by omega)).2
    rw[O2,rO]at hc
    by_cases he:dR (O.extract X.p O.size) q=0
    ·rw[if_pos he]
     refine .inr ⟨rfl,rfl,fun hg=> ?_⟩
     obtain⟨ds,hd⟩:=hg.step hc
     refine⟨[],0,X.p,.nil,.nil,.inr (.inr (.inr ⟨ds,hc,hd,?_⟩))⟩
     cases ds with
     |nil=>rfl
     |cons d ds=>
      have hr:=Yz h2 hd 1 rfl
      have hz:=aA O X.p O.size (Nat.le_refl _)
      rw[show O.size-X.p=(O.extract X.p O.size).size by omega]at hr
      exact(OB (by omega) hr (by simp)).1 he
    ·rw[if_neg he]
     obtain⟨ds,d1,d2,d3,d4,d5⟩:=GU bz hq he
     have c2:Cl O X.p (92::ds) (X.p+(dR (O.extract X.p O.size) q).toNat):= .cons hc d1
     rcases mi hq n (c+1) {X with p:=X.p+(dR (O.extract X.p O.size) q).toNat} h0 (by show 1<=X.p+_;omega) d5 (by show _<=X.p+_+n;omega)with⟨cs,k,e,i1,i2,i3,i4,i5,i6⟩|⟨i1,i2,i3⟩
     ·refine .inl ⟨92::(ds++cs),k+1,e,.es (d3 cs) i1,c2.app i2,i3,fun y hy=> ?_,fun e=>by have:=i5 e;omega,i6⟩
      rcases List.mem_cons.1 hy with rfl|hy
      ·decide
      ·rcases List.mem_append.1 hy with hy|hy
       ·exact d2 y hy
       ·exact i4 y hy
     ·refine .inr ⟨i1,i2,fun hg=> ?_⟩
      obtain⟨cs,k,e,j1,j2,j3⟩:=i3 (hg.on c2)
      refine⟨92::(ds++cs),k+1,e,.es (d3 cs) j1,c2.app j2,?_⟩
      rcases j3 with j3|j3|⟨j3,j4,j5⟩|j3
      ·exact .inl j3
      ·exact .inr (.inl j3)
      ·exact .inr (.inr (.inl ⟨j3,j4,by omega⟩))
      ·exact .inr (.inr (.inr j3))
   ·rw[if_neg O2]
    rcases mi hq n (c+1) {X with p:=X.p+aN O X.p} h0 (by show 1<=X.p+_;omega) (by show X.p+aN O X.p<=O.size;omega) (by show O.size+1<=X.p+aN O X.p+n;omega)with⟨cs,k,e,i1,i2,i3,i4,i5,i6⟩|⟨i1,i2,i3⟩
    ·refine .inl ⟨ba O X.p::cs,k+1,e,.ch T6 O2 gI i1,.cons hc i2,i3,fun y hy=> ?_,fun e=>by have:=i5 e;omega,i6⟩
     rcases List.mem_cons.1 hy with rfl|hy
     ·exact gI
     ·exact i4 y hy
    ·refine .inr ⟨i1,i2,fun hg=> ?_⟩
     obtain⟨cs,k,e,j1,j2,j3⟩:=i3 (hg.step hc)
     refine⟨ba O X.p::cs,k+1,e,.ch T6 O2 gI j1,.cons hc j2,?_⟩
     rcases j3 with j3|j3|⟨j3,j4,j5⟩|j3
     ·exact .inl j3
     ·exact .inr (.inl j3)
     ·exact .inr (.inr (.inl ⟨j3,j4,by omega⟩))
     ·exact .inr (.inr (.inr j3))
  ·have he:X.p=O.size:=by omega
   have X9:aN O X.p=0:=by unfold aN;rw[if_neg bz]
   rw[if_pos (.inl X9)]
   exact .inr ⟨rfl,rfl,fun _=>⟨[],0,X.p,.nil,.nil,.inl he⟩⟩
def uZ(O:U)(m:Int)(x:LS)(st:St)(n:Nat)(y:LS):Prop:=
 (y.ai=0∧bO O m x st (fD O n y))∨(y.ai≠0∧y.out=x.out∧(y.ai=1->m=0->rT O x.p->∀L e,mA O st L e->e.ab≠[]))
theorem GV{a b:St}(h:a.ab.length<b.ab.length):b.ab≠[]:=fun e=>by rw[e]at h;exact absurd h (Nat.not_lt_zero _)
theorem Hi.len{q:Int}{cs:List Int}{k:Nat}(h:Hi q cs k)(hq:0<=q):k<=cs.length:=by
 induction h with
 |nil=>exact Nat.le_refl _
 |ch _ _ _ _ ih=>simp only[List.length_cons];omega
 |@es cs r k h1 h2 ih=>
  have:r.length<=cs.length:=by
   have key:∀(b:Int) (n:Nat) (l r:List Int) (x v:Int),bq b n x l=some (v,r)->r.length<=l.length:=by
    intro b n
    induction n with
    |zero=>intro l r x v h;simp only[bq,Option.some.injEq,Prod.mk.injEq]at h;rw[h.2];exact Nat.le_refl _
    |succ n ih=>
     intro l r x v h
     cases l with
     |nil=>cases h
     |cons c l=>
      simp only[bq]at h
      split at h
      ·have:=ih _ _ _ _ h;simp only[List.length_cons];omega
      ·cases h
   have bk:∀(b:Int) (n:Nat) (l:List Int) (bad:Int->Prop) [DecidablePred bad],((bq b n 0 l).bind fun r=>if bad r.1 then none else some r.2)=some r->r.length<=l.length:=fun b n l bad _ h=>by
    cases ht:bq b n 0 l with
    |none=>rw[ht]at h;cases h
    |some vr=>
     rw[ht]at h
     simp only[Option.bind_some]at h
     split at h
     ·cases h
     ·cases h;exact key b n l _ 0 _ ht
   cases cs with
   |nil=>cases h1
   |cons c l=>
    simp only[oK]at h1
    split at h1
    ·cases h1;simp
    ·split at h1
     ·exact bk 8 3 (c::l) (fun v=>v>255) h1
     ·split at h1
      ·have:=bk 16 2 l (fun _=>False) (by simpa using h1);simp only[List.length_cons];omega
      ·split at h1
       ·have:=bk 16 4 l dY h1;simp only[List.length_cons];omega
       ·split at h1
        ·have:=bk 16 8 l dY h1;simp only[List.length_cons];omega
        ·cases h1
  simp only[List.length_cons];omega
theorem YB{O:U}{st:St}(bn:Std O O.size st)(ok:Bool):st.ab.length<(iV O (st,ok)).1.ab.length:=by
 have e:=bn.end.1
 rw[ni,if_neg (by omega),if_neg (by omega),if_neg (by omega),if_pos (by omega)]
 show st.ab.length<(st.ab++[_]).length
 simp
theorem Lw{O:U}{q:Int}(hq:0<=q){e:Nat}{ds:List Int}{s:St}(hs:Std O e s)(O2:bA O e 92 1)(hd:Cl O (e+1) ds O.size)(hn:oK q ds=none):
 s.ab.length<(bt O q (aa O s)).2.ab.length∨((bt O q (aa O s)).1=true∧Std O O.size (bt O q (aa O s)).2∧(bt O q (aa O s)).2.ab=s.ab):=by
 obtain⟨_,a,b⟩:=dZ hs O2 (hd.jq (.inr rfl))
 cases ds with
 |nil=>
  have he:=hd.nil_eq rfl
  rw[he]at a
  rw[W_ hq a]
  exact .inr ⟨rfl,a,b.ab⟩
 |cons d ds=>
  rcases Sh hn (by simp) hd (.inr rfl) a with h|⟨_,h2,h3,h4⟩
  ·rw[b.ab]at h;exact .inl h
  ·exact .inr ⟨h2,h3,h4.trans b.ab⟩
theorem T7{O:U}{p c:Nat}(h:acI O 34 c p){st:St}(bn:Std O p st):st.ab.length<(iV O (st,true)).1.ab.length:=by
 obtain⟨cs,k,e,i1,i2,i3⟩:=h
 rcases i3 with i3|i3|⟨i3,_⟩|⟨ds,i3,i4,i5⟩
 ·exact FP i1 true i2 (.inl i3) bn
 ·exact FP i1 true i2 (.inr i3) bn
 ·cases i3
 ·obtain⟨s1,g1,g2,g3⟩:=y9 i1 true i2 (.inl ⟨_,_,i3⟩) bn
  have e1:=(g2.of i3).1
  rw[g1,ni,if_neg (by omega),if_pos e1,←g3.ab]
  rcases Lw (by decide) g2 i3 i4 i5 with h|⟨h1,h2,h3⟩
  ·exact Nat.lt_of_lt_of_le h (Xa O _ _)
  ·rw[←h3];exact YB h2 _
theorem OC{O:U}{p:Nat}(hs:O.size<=2048)(h:acI O 39 0 p){st:St}(bn:Std O p st):st.ab.length<(dc O (st,true,0)).1.ab.length:=by
 obtain⟨cs,k,e,i1,i2,i3⟩:=h
 have hk:k<=1000000:=by
  have a:=i1.len (by decide)
  have b:=i2.le
  have c:=i2.le2 (by have:=bn.pos.n;have:=bn.here;omega)
  omega
 rcases i3 with i3|i3|⟨_,i3,i4⟩|⟨ds,i3,i4,i5⟩
 ·subst i3;exact NU i1 hk i2 bn
 ·obtain⟨s1,g1,g2,g3⟩:=nj i1 0 (by omega) i2 (.inl ⟨_,_,i3⟩) bn
  have e1:=(g2.of i3).1
  have FO:dc O (st,true,0)=dc O (s1,true,((0+k:Nat):Int)):=g1
  rw[FO,iK,if_neg (by omega),if_neg (by omega),if_pos e1]
  show st.ab.length<(s1.ab++[_]).length
  rw[g3.ab];simp
 ·exact NT i1 (by omega) hk i2 i3 bn
 ·obtain⟨s1,g1,g2,g3⟩:=nj i1 0 (by omega) i2 (.inl ⟨_,_,i3⟩) bn
  have e1:=(g2.of i3).1
  have FO:dc O (st,true,0)=dc O (s1,true,((0+k:Nat):Int)):=g1
  rw[FO,iK,if_neg (by omega),if_pos e1,←g3.ab]
  rcases Lw (by decide) g2 i3 i4 i5 with h|⟨h1,h2,h3⟩
  ·exact Nat.lt_of_lt_of_le h (wO O ((bt O 39 (aa O s1)).2,_,_)).len
  ·have e2:=h2.end.1
   rw[h1,if_pos rfl,iK,if_neg (by omega),if_neg (by omega),if_neg (by omega),if_pos (by omega),←h3]
   show _<((bt O 39 (aa O s1)).2.ab++[_]).length
   simp
theorem u7{O:U}{x:LS}{e:Nat}{s:St}{k:Int}(hk:0<=k∧k<=9)(hb:s.b=some x.p)(hs:Std O e s):Aj (bJ O k true s) ⟨2,O.extract x.p e,k,0,0⟩:=by
 have:=FL (s:=bJ O k true s) (k:=k) rfl rfl rfl hk.1 hk.2
 have e2:(bJ O k true s).lit=O.extract x.p e:=by
  show fG O s=_
  unfold fG
  rw[hb,hs.cut];rfl
 rw[e2]at this
 exact this
theorem bO.quoted{O:U}{m:Int}{x:LS}{st:St}(h:Bd O m x st){n:Nat}(ih:∀x st,Bd O m x st->O.size+1<=x.p+n->bO O m x st (fD O n x))(hn:O.size<=x.p+n){q:Int}(hq:q=34∨q=39)(hc:bA O x.p q 1):
 uZ O m x st n (bE O q x.p O.size 0 {x with p:=x.p+1}):=by
 have bz:=hc.lt
 have Hp:∀N,N.ch=q->(jM O x.ends N).get Sc.iN= .done (if q=34 then fc O N else yk O N) []:=fun N hN=>by
  unfold jM
  rcases hq with rfl|rfl<;>simp[af.get,hN,fi]
 obtain⟨N,g,kE,e⟩:=h.sw (.inl ⟨1,hc⟩) (by rcases hq with rfl|rfl<;>cases x.ends<;>rfl) (by rcases hq with rfl|rfl<;>decide) (by omega)
 rw[Hp N kE]at e
 have e2:(aK O st).1=if q=34 then fc O N else yk O N:=by rw[e];rfl
 rcases mi (f:=x.p) hq O.size 0 {x with p:=x.p+1} h.clean (Nat.succ_pos _) bz (by show O.size+1<=x.p+1+O.size;omega)with⟨cs,k,e',i1,i2,i3,i4,i5,i6⟩|⟨i1,i2,i3⟩
 ·rw[i6]
  refine .inl ⟨h.clean,?_⟩
  have i2:Cl O (x.p+1) cs e':=i2
  have c1:Cl O x.p (q::(cs++[q])) (e'+1):= .cons hc (i2.snoc i3)
  have n10:∀c∈q::(cs++[q]),c≠10:=fun c wi=>by
   rcases List.mem_cons.1 wi with rfl|wi
   ·omega
   ·rcases List.mem_append.1 wi with wi|wi
    ·exact i4 c wi
    ·simp only[List.mem_singleton]at wi;omega
  have hle:=i2.le
  have hl3:=i3.lt
  rcases rL (O:=O) (p:=e'+1) hl3 (fun e=>absurd e (Nat.succ_ne_zero _))with ie|⟨cz,fm⟩
  ·obtain⟨_,s1,s2⟩:=dZ g.here.gQ hc (i2.jq (.inl ⟨_,_,i3⟩))
   rcases hq with rfl|rfl
   ·obtain⟨s',r1,r2,r3⟩:=NS i1 true i2 i3 ie s1
    have e3:(aK O st).1=bJ O 4 true s':=by rw[e2,if_pos rfl];unfold fc;rw[r1]
    have r4:=s2.trans r3
    refine bO.put h g ih hn (by omega) c1 n10 e3 (r2.same rfl rfl rfl rfl) r4.ab (by show s'.line=_∧s'.aM=_;rw[r4.bm];exact⟨rfl,rfl⟩) (by show(3:Int)≠1;decide) (u7 (by decide) (by rw[r4.on.b];exact g.here.b) r2) rfl
   ·have hk:k=1:=by have:=i5 rfl;omega
    subst hk
    obtain⟨s',r1,r2,r3⟩:=Jh i1 i2 i3 ie s1
    have e3:(aK O st).1=bJ O 3 true s':=by rw[e2,if_neg (by decide)];unfold yk;rw[r1]
    have r4:=s2.trans r3
    refine bO.put h g ih hn (by omega) c1 n10 e3 (r2.same rfl rfl rfl rfl) r4.ab (by show s'.line=_∧s'.aM=_;rw[r4.bm];exact⟨rfl,rfl⟩) (by show(3:Int)≠1;decide) (u7 (by decide) (by rw[r4.on.b];exact g.here.b) r2) rfl
  ·exact bO.drop h (by omega) h.clean rfl (mg h.fst) rfl (by simp) ⟨cz,.inl fm⟩ (fun hm hg=>absurd (hg.on c1) (An.lH cz fm))
 ·refine .inr ⟨by rw[i1];decide,i2,fun _ _ hg=>qd h.iv (GV (a:=N) ?_)⟩
  have hg1:=hg.step hc
  obtain⟨_,s1,s2⟩:=dZ g.here.gQ hc hg1.jq
  have hb:=i3 hg1
  rw[e2]
  rcases hq with rfl|rfl
  ·have:=T7 hb s1
   rw[s2.ab]at this
   rw[if_pos rfl]
   exact this
  ·have:=OC h.iv.sz hb s1
   rw[s2.ab]at this
   rw[if_neg (by decide)]
   exact this
theorem zC{O:U}{X:LS}{r:Int}{w:Nat}(hc:bA O X.p r w)(hl:X.line=1+gE O X.p)(hb:X.st=kC O X.p):br O X w={X with p:=X.p+w,line:=1+gE O (X.p+w),st:=kC O (X.p+w)}:=by
 unfold br
 by_cases gI:(O.get! X.p).toNat=10
 ·have hw:w=1:=by
   rcases hc.ch with⟨_,_,_,a⟩|⟨a,_⟩
   ·exact a
   ·omega
  subst hw
  have:=Lu gI
  rw[if_pos gI,this.1,this.2,hl]
  rfl
 ·have hr:r≠10:=fun e=>by
   have:=(hc.byte (by omega)).1
   omega
  have:=hc.nl hr
  rw[if_neg gI,this.1,this.2,←hl,←hb]
theorem GW{O:U}{f:Nat}:∀(n:Nat) (X:LS),X.ai=0->1<=X.p->X.p<=O.size->O.size+1<=X.p+n->X.line=1+gE O X.p->X.st=kC O X.p->
 (∃cs e,Cl O X.p cs e∧(∀y∈cs,y≠96)∧bA O e 96 1∧eZ O f n X=dk O {X with p:=e+1,line:=1+gE O (e+1),st:=kC O (e+1)} 2 4 f)∨
 ((eZ O f n X).ai=1∧(eZ O f n X).out=X.out∧(rT O X.p->∀i,X.p<=i->i<O.size->(O.get! i).toNat≠96))
 |0,X,h0,h1,h2,h3,hl,hb=>by omega
 |n+1,X,h0,h1,h2,h3,hl,hb=>by
  rw[eZ]
  by_cases lM:ca O X.p=true
  ·rw[if_pos (.inl lM)]
   have bz:X.p<O.size:=by unfold ca at lM;simp only[Bool.and_eq_true,decide_eq_true_eq]at lM;exact lM.1
   exact .inr ⟨rfl,rfl,fun hg=>absurd hg (An.lH bz lM)⟩
  by_cases bz:X.p<O.size
  ·have hc:=kD bz (by simpa using lM) (fun e=>by omega)
   have hw:=hc.w
   rw[if_neg (by intro hh;rcases hh with hh|hh;exact lM hh;omega)]
   by_cases vX:ba O X.p=96
   ·rw[if_pos vX]
    have rO:=(hc.byte (by omega)).2
    rw[zC hc hl hb,rO]
    rw[vX,rO]at hc
    exact .inl ⟨[],X.p,.nil,fun y hy=>absurd hy List.not_mem_nil,hc,rfl⟩
   ·rw[if_neg vX,zC hc hl hb]
    rcases GW n {X with p:=X.p+aN O X.p,line:=1+gE O (X.p+aN O X.p),st:=kC O (X.p+aN O X.p)} h0 (by show 1<=X.p+_;omega) (by show X.p+aN O X.p<=O.size;omega) (by show O.size+1<=X.p+aN O X.p+n;omega) rfl rfl with⟨cs,e,i1,i2,i3,i4⟩|⟨i1,i2,i3⟩
    ·refine .inl ⟨ba O X.p::cs,e,.cons hc i1,fun y hy=> ?_,i3,i4⟩
     rcases List.mem_cons.1 hy with rfl|hy
     ·exact vX
     ·exact i2 y hy
    ·refine .inr ⟨i1,i2,fun hg i hi yU e96=> ?_⟩
     by_cases ZV:X.p+aN O X.p<=i
     ·exact i3 (hg.step hc) i ZV yU e96
     ·rcases hc.ch with⟨a1,a2,a3,a4⟩|⟨a1,a2,a3,a4,a5⟩
      ·have:i=X.p:=by omega
       subst this;omega
      ·have:=tY a1 i hi (by omega)
       omega
  ·have X9:aN O X.p=0:=by unfold aN;rw[if_neg bz]
   rw[if_pos (.inr X9)]
   exact .inr ⟨rfl,rfl,fun _ i hi yU=>by omega⟩
theorem bO.raw{O:U}{m:Int}{x:LS}{st:St}(h:Bd O m x st){n:Nat}(ih:∀x st,Bd O m x st->O.size+1<=x.p+n->bO O m x st (fD O n x))(hn:O.size<=x.p+n)(hc:bA O x.p 96 1):
 uZ O m x st n (if(eZ O x.p O.size {x with p:=x.p+1}).ai=0 then{eZ O x.p O.size {x with p:=x.p+1}with out:=K0 (eZ O x.p O.size {x with p:=x.p+1}).out x.line ((x.p:Int)-x.st+1)}else eZ O x.p O.size {x with p:=x.p+1}):=by
 have bz:=hc.lt
 obtain⟨N,g,kE,e⟩:=h.sw (.inl ⟨1,hc⟩) (by cases x.ends<;>rfl) (by decide) (by decide)
 have Hp:(jM O x.ends N).get Sc.iN= .done (fb O N) []:=by
  unfold jM
  simp[af.get,kE,fi]
 rw[Hp]at e
 have e2:(aK O st).1=fb O N:=by rw[e];rfl
 have GP:=hc.nl (by decide)
 rcases GW (O:=O) (f:=x.p) O.size {x with p:=x.p+1} h.clean (Nat.succ_pos _) bz (by show O.size+1<=x.p+1+O.size;omega) (by show x.line=1+gE O (x.p+1);rw[GP.1];exact h.line) (by show x.st=kC O (x.p+1);rw[GP.2];exact h.bol)with⟨cs,e',i1,i2,i3,i4⟩|⟨i1,i2,i3⟩
 ·rw[if_pos (by rw[i4];exact h.clean),i4]
  refine .inl ⟨h.clean,?_⟩
  have i1:Cl O (x.p+1) cs e':=i1
  have c1:Cl O x.p (96::(cs++[96])) (e'+1):= .cons hc (i1.snoc i3)
  have hle:=i1.le
  have hl3:=i3.lt
  have ho:K0 (x.out++[⟨2,O.extract x.p (e'+1),4,((1+gE O (e'+1):Nat):Int),(x.p:Int)-((kC O (e'+1):Nat):Int)+1⟩]) x.line ((x.p:Int)-x.st+1)=x.out++[⟨2,O.extract x.p (e'+1),4,x.line,(x.p:Int)-x.st+1⟩]:=by
   unfold K0
   rw[List.getLast?_concat,List.dropLast_concat]
  have afX:=mg (O:=O) (cls:=2) (kind:=4) (e:=e'+1) h.fst
  rcases rL (O:=O) (p:=e'+1) hl3 (fun e=>absurd e (Nat.succ_ne_zero _))with ie|⟨cz,fm⟩
  ·obtain⟨_,s1,s2⟩:=dZ g.here.gQ hc (i1.jq (.inl ⟨_,_,i3⟩))
   obtain⟨s',r1,r2,r3⟩:=RO i1 true i2 i3 ie s1
   have e3:(aK O st).1=bJ O 4 true s':=by rw[e2];unfold fb;rw[r1]
   have r4:=s2.trans r3
   exact bO.afR h g ih hn (by omega) c1 e3 (r2.same rfl rfl rfl rfl) r4.ab (by show s'.line=_∧s'.aM=_;rw[r4.bm];exact⟨rfl,rfl⟩) (by show(3:Int)≠1;decide) (u7 (by decide) (by rw[r4.on.b];exact g.here.b) r2) h.clean rfl ho afX rfl rfl rfl rfl
  ·exact bO.drop h (by omega) h.clean rfl afX ho (by simp) ⟨cz,.inl fm⟩ (fun hm hg=>absurd (hg.on c1) (An.lH cz fm))
 ·rw[if_neg (by rw[i1];decide)]
  refine .inr ⟨by rw[i1];decide,i2,fun _ _ hg=>qd h.iv (GV (a:=N) ?_)⟩
  have hg1:=hg.step hc
  obtain⟨_,s1,s2⟩:=dZ g.here.gQ hc hg1.jq
  have:=RP _ (aa O N) true (Nat.le_refl _) (fun i hi yU=>i3 hg1 i (by rw[s1.cut]at hi;exact hi) yU) s1.pos
  rw[s2.ab]at this
  rw[e2]
  exact this
theorem JJ{st:St}(h:iO st.ch=false)(h2:128<=st.ch):∃msg,cA true st=(true,error msg st):=by
 unfold iO at h
 simp only[Bool.or_eq_false_iff,beq_eq_false_iff_ne,ne_eq]at h
 unfold cA
 rw[if_neg (by simp[h.1,h.2])]
 by_cases hd:isDigitU st.ch=true
 ·rw[if_pos hd,if_pos rfl];exact⟨_,rfl⟩
 ·rw[if_neg hd,if_pos (by omega)];exact⟨_,rfl⟩
theorem T8{O:U}{m:Int}{x:LS}{st:St}(h:Bd O m x st){r:Int}{w:Nat}(hc:bA O x.p r w)(hl:iO r=false)(hb:r≠10∧r≠32∧r≠9∧r≠13)(hd:¬(48<=r∧r<=57))(hq:r≠34∧r≠39∧r≠96∧r≠59)(hs:∀w∈jS,¬Sub O x.p w):(aK O st).1.ab≠[]:=by
 have bz:=hc.lt
 have hw:=hc.w
 have zT:aI x.ends r=false:=by unfold aI;simp;omega
 by_cases acJ:r<128
 ·have hlf:cj r=false:=by rw[(Ji (by omega) acJ).1];exact hl
  obtain⟨N,g,kE,e⟩:=h.sw (.inl ⟨w,hc⟩) zT hlf acJ
  have DP:=(hc.byte acJ).1
  have ns:∀c:UInt8,(⟨#[c]⟩:U)∈jS->r≠(c.toNat:Int):=fun c hm e=>hs _ hm ⟨bz,fun j hj=>by
   have hj:j<1:=hj
   obtain rfl:j=0:=by omega
   exact UInt8.toNat_inj.1 (by show(O.get! (x.p+0)).toNat=c.toNat;rw[Nat.add_zero];omega)⟩
  have m1:∀c:UInt8,wA ⟨#[c]⟩=true->N.ch≠(c.toNat:Int):=fun c hi=>by rw[kE];exact ns c (Dc hi)
  have ne:∀k:Int,N.ch≠k->(N.ch==k)=false:=fun k hk=>by simpa using hk
  have e1:(jM O x.ends N).get Sc.iN= .fP (aa O (error fq N)):=by
   have n1:=ne (-1) (by omega);have n2:=ne 10 (by omega);have n3:=ne 48 (by omega);have n4:=ne 49 (by omega);have n5:=ne 50 (by omega);have n6:=ne 51 (by omega);have n7:=ne 52 (by omega);have n8:=ne 53 (by omega);have n9:=ne 54 (by omega)
   have n10:=ne 55 (by omega);have n11:=ne 56 (by omega);have n12:=ne 57 (by omega);have n13:=ne 34 (by omega);have n14:=ne 96 (by omega);have n15:=ne 39 (by omega);have n16:=ne 59 (by omega)
   have k1:=ne 43 (m1 43 (by kernel_rfl));have k2:=ne 45 (m1 45 (by kernel_rfl));have k3:=ne 42 (m1 42 (by kernel_rfl));have k4:=ne 47 (m1 47 (by kernel_rfl));have k5:=ne 37 (m1 37 (by kernel_rfl));have k6:=ne 38 (m1 38 (by kernel_rfl))
   have k7:=ne 124 (m1 124 (by kernel_rfl));have k8:=ne 94 (m1 94 (by kernel_rfl));have k9:=ne 60 (m1 60 (by kernel_rfl));have k10:=ne 62 (m1 62 (by kernel_rfl));have W2:=ne 61 (m1 61 (by kernel_rfl));have k12:=ne 33 (m1 33 (by kernel_rfl))
   have k13:=ne 126 (m1 126 (by kernel_rfl));have KQ:=ne 40 (m1 40 (by kernel_rfl));have k15:=ne 41 (m1 41 (by kernel_rfl));have k16:=ne 91 (m1 91 (by kernel_rfl));have k17:=ne 93 (m1 93 (by kernel_rfl));have k18:=ne 123 (m1 123 (by kernel_rfl))
   have k19:=ne 125 (m1 125 (by kernel_rfl));have k20:=ne 44 (m1 44 (by kernel_rfl));have k21:=ne 46 (m1 46 (by kernel_rfl));have k22:=ne 58 (m1 58 (by kernel_rfl))
   unfold jM
   simp only[af.get,fi,n1,n2,n3,n4,n5,n6,n7,n8,n9,n10,n11,n12,n13,n14,n15,n16,k1,k2,k3,k4,k5,k6,k7,k8,k9,k10,W2,k12,k13,KQ,k15,k16,k17,k18,k19,k20,k21,k22,Bool.false_eq_true,if_false]
  rw[e1]at e
  have a1:=gD fq N
  have a2:=(aR O (error fq N)).len
  have a3:=ru (O:=O) (nl:=x.ends) (s:=aa O (error fq N)) g.here.nl (.inl (dJ (O:=O) (g.here.gQ.pos.same (aO:=error fq N) rfl rfl rfl).n).1) h.iv.sz
  rw[e]
  refine GV (a:=N) ?_
  show N.ab.length<(gv O x.ends (aa O (error fq N))).1.ab.length
  omega
 ·have hcn:iP O x.p:= .inl ⟨_,_,hc⟩
  obtain⟨⟨p0,bs,g1,g2,g3,g4⟩,ht⟩:=h.at_ hcn
  obtain⟨N,hN,e1⟩:=kL (nl:=x.ends) (g2.same (b:={st with au:=false}) rfl rfl rfl rfl) g1 g3 g4 hcn (fun r' w' rQ=>by rw[(rQ.uniq hc).1];exact zT)
  obtain⟨c1,c2⟩:=hN.gQ.of hc
  have hlf:cj N.ch=false:=by
   have:=xa (r:=N.ch) (by omega) (by omega)
   unfold qp at this
   simp only[Bool.or_eq_false_iff]at this
   exact this.1
  have Qz:decide (N.ch>=128)=true:=by simp;omega
  obtain⟨msg,ha⟩:=JJ (st:=N) (by rw[c1];exact hl) (by omega)
  have e2:(aK O st).1=dV O (aa O (error msg N)):=by
   rw[cR,h.nl,dB h.pos h.iv.sz,e1]
   have:(A8 O (fun s=>Fin.done s []) (jM O x.ends) N).get Sc.iN=Fin.done (dV O (aa O (error msg N))) []:=by
    simp[A8,af.get,hlf,Qz,ha]
   rw[this]
   generalize dV O (aa O (error msg N))=I
   rfl
  obtain⟨l,Vh⟩:=(E7 (O:=O) (cq O (error msg N))).ab
  have a1:=gD msg N
  have a2:=(aR O (error msg N)).len
  rw[e2]
  refine GV (a:=N) ?_
  rw[Vh,List.length_append]
  omega
theorem YC{O:U}{m:Int}{x:LS}{st:St}(h:Bd O m x st){n:Nat}(ih:∀x st,Bd O m x st->O.size+1<=x.p+n->bO O m x st (fD O n x))(hn:O.size<=x.p+n)(hp:x.p<O.size)
 (hb:(O.get! x.p).toNat≠10∧(O.get! x.p).toNat≠32∧(O.get! x.p).toNat≠9∧(O.get! x.p).toNat≠13)(r1:¬Sub O x.p N1)(r2:¬Sub O x.p Jk):uZ O m x st n (bR O x):=by
 unfold bR
 simp only
 by_cases lM:ca O x.p=true
 ·rw[if_pos lM]
  exact .inr ⟨Nat.one_ne_zero,rfl,fun _ _ hg=>absurd hg (An.lH hp lM)⟩
 rw[if_neg lM]
 have hc:=kD hp (by simpa using lM) h.b0
 by_cases hl:iO (ba O x.p)=true
 ·rw[if_pos hl]
  exact .inl ⟨h.clean,bO.word h ih hn hc hl⟩
 rw[if_neg hl]
 have hr8:∀k:Nat,k<128->k≠0->(O.get! x.p).toNat=k->bA O x.p (k:Int) 1:=fun k k1 k0 e=>by
  have:=cM hp (by omega) (by omega)
  rw[e]at this;exact this
 by_cases hd:qt (O.get! x.p)=true∨((O.get! x.p).toNat=46∧x.p+1<O.size∧qt (O.get! (x.p+1))=true)
 ·rw[if_pos hd]
  unfold jT
  simp only
  obtain⟨l1,l2,l3⟩:=pF (O:=O) (f:=x.p) (hex:=cD (O.extract x.p O.size)) O.size x.p (by omega) h.le
  by_cases hk:cE (O.extract x.p (fk O x.p (cD (O.extract x.p O.size)) O.size x.p))<0∨(fk O x.p (cD (O.extract x.p O.size)) O.size x.p<O.size∧128<=(Utf8.decode O (fk O x.p (cD (O.extract x.p O.size)) O.size x.p)).1)
  ·rw[if_pos hk]
   exact .inr ⟨by show(2:Nat)≠0;decide,rfl,fun e=>absurd (show(2:Nat)=1 from e) (by decide)⟩
  ·rw[if_neg hk]
   exact .inl ⟨h.clean,bO.num h ih hn ⟨l1,l2⟩ (fun bz=>⟨l3 bz,by omega⟩) (by omega)⟩
 rw[if_neg hd]
 by_cases hq:(O.get! x.p).toNat=34∨(O.get! x.p).toNat=39
 ·rw[if_pos hq]
  rcases hq with hq|hq
  ·rw[hq];exact bO.quoted h ih hn (.inl rfl) (hr8 34 (by decide) (by decide) hq)
  ·rw[hq];exact bO.quoted h ih hn (.inr rfl) (hr8 39 (by decide) (by decide) hq)
 rw[if_neg hq]
 by_cases vX:(O.get! x.p).toNat=96
 ·rw[if_pos vX]
  exact bO.raw h ih hn (hr8 96 (by decide) (by decide) vX)
 rw[if_neg vX]
 by_cases Ly:(O.get! x.p).toNat=59
 ·rw[if_pos Ly]
  exact .inl ⟨h.clean,bO.lO h ih hn hp Ly⟩
 rw[if_neg Ly]
 cases hf:(jS.find? fun w=>Lib.hasPrefix (O.extract x.p O.size).data.toList w.data.toList)with
 |some w=>
  obtain⟨w1,w2,w3⟩:=ua h.le hf
  have e:mb O x=dk O {x with p:=x.p+w.size} 3 0 x.p:=by unfold mb;rw[hf]
  rw[e]
  exact .inl ⟨h.clean,bO.sign h ih hn w1 w2 w3 r1 r2 hd⟩
 |none=>
  have e:mb O x={x with ai:=1}:=by unfold mb;rw[hf]
  rw[e]
  rw[List.find?_eq_none]at hf
  refine .inr ⟨Nat.one_ne_zero,rfl,fun _ _ _=>qd h.iv (T8 h hc (by simpa using hl) ?_ ?_ ?_ (fun w hw hs=>hf w hw ((dv h.le).2 hs)))⟩
  all_goals
   unfold qt at hd
   simp only[Bool.and_eq_true,decide_eq_true_eq]at hd
   have fm:ba O x.p<128->ba O x.p=((O.get! x.p).toNat:Int):=fun hh=>(hc.byte hh).1
   omega
end
end Sc
end Go.Proofs.YtogkcphobhhbdaaGreatDoor
