/- The scanner of the program told as plain functions, part 1: texts joined and shortened by a program (wip/tools/mini.py). -/
import Derived.Test.YtogkcphobhhbdaaGreatDoorYc20
import Derived.WalkKit
import Derived.StillTail
import Derived.KernelRfl
import Derived.Shelf.Abstract
import Derived.Laws.CopyRow
import GoSem.Core.Utf8
import GoSem.Core.View
import Derived.Test.YtogkcphobhhbdaaGreatDoorProg
import Derived.Shelf.Unicode.PredsPay
import Derived.Shelf.Unicode.DecodeAny
import Derived.WalkSpells
import Derived.OneCell
import Derived.Deep.QuietTactic
import Derived.BigQuiet
import Derived.Lib.Hide
import Derived.Handy
import Derived.Laws.CopyOwn
import Derived.Room.AppendOwn
import Derived.Deep.DeepAppendRoom
import Derived.ScopeJumps
import Derived.Shelf.Lays7
import Derived.Shelf.Spec.DecodeRune
import Derived.Shelf.Strings.MapAny
import Derived.Lib.ConvBytes
import Derived.WalkSmall
import Derived.Shelf.LaysM
import Derived.Shelf.Strconv.Itoa4
import Derived.Deep.RegionHeld3
import Derived.Deep.AppendLies
import Derived.Shelf.Strings.Search1
import Derived.Shelf.Strings.Prefix
import Derived.Lib.OthersKept
import Derived.Lib.DecodeN
import Derived.Laws.BitsLemmas
import Derived.Laws.BytesArg
import Derived.Lib.RuneBytes
import Derived.BigRegion
import Derived.Test.YtogkcphobhhbdaaGreatDoorRows
import Derived.PinnedBridge
import Derived.Lib.LaidRTabT
import Derived.Lib.LaidU8T
import Derived.Stop.LaidErr
import Derived.Lay
import Derived.LaidMore
import Derived.ProofKit
import Derived.OpenShut
import Derived.OpenVars
import Derived.SevenTiedAt
import Derived.Stop.Joined
set_option linter.unusedVariables false
set_option linter.unusedSimpArgs false
set_option maxHeartbeats 32000000
namespace Go.Proofs.YtogkcphobhhbdaaGreatDoor
open Go Go.RowKit Go.Lib
namespace Sc
open Ev
set_option maxRecDepth 100000
noncomputable section
def ab6:eP:=⟨4,⟨#[]⟩,0,0,0⟩
def aaL(W:List eP)(t:eP):List eP:=if Bw t=true then W++[ab6]++[ahZ]else W++[ahZ]
structure One(O:U)(s:St):Prop where
 iZ:∃s2 s3,iZ O 0=[s,s2,s3]∧s2.tok=18∧s2.lit=Rb∧s3.tok=1
 ab:(last O 0).ab=[]
theorem abO{s:St}(h:s.tok=18)(h2:s.lit=Rb):Aj s ab6:=by
 refine⟨?_,fun h=>by cases h⟩
 rw[h,h2]
 show gX (aH 18) Rb (lB s.op)=(4,⟨#[]⟩)
 unfold gX
 have e:Rb.toList=[69,79,70]:=by kernel_rfl
 rw[By,e]
 rfl
theorem abt{t:eP}(h:Bw t=true):aaL [t] t=[t,ab6,ahZ]:=by
 unfold aaL
 rw[if_pos h]
 rfl
theorem One.ac1{O:U}{s:St}{t:eP}(h:One O s)(ht:Aj s t)(he:Bw t=true):KR (Sc.iZ O 0) (aaL [t] t):=by
 obtain⟨s2,s3,e,h2,h2',h3⟩:=h.iZ
 rw[e,abt he]
 refine⟨rfl,fun i a b ha hb=> ?_⟩
 match i,ha,hb with
 |0,ha,hb=>cases ha;cases hb;exact ht
 |1,ha,hb=>cases ha;cases hb;exact abO h2 h2'
 |2,ha,hb=>cases ha;cases hb;exact Se h3
theorem abS{w:World}{p q:Option Addr}{c d:Nat}:Calls Tryz.prog 21 #[.slice p 0 c,.slice q 0 d] w fun en w'=>en= .returned (.bool true)∧Below w.heap.size w w':=by
 refine calls_of_wp Tryz.func21 W5 ?_
 have yV:(Tryz.f21).ntmps-(#[.slice p 0 c,.slice q 0 d]:Array Value).size=59:=by kernel_rfl
 rw[yV]
 have first:∀(B C:Code) (Q:Exit->Act->World->Prop),(∀a,SK (.slice p 0 c) (.slice q 0 d) (.slice p 0 c) (.int .i64 (0:Nat)) (.int .i64 (0:Nat)) a->B.wp Tryz.prog (Exit.then (fun a w=>C.wp Tryz.prog Q a w) Q) a w)->
  (Code.seq (aP 0) (.seq (aP 1) (.seq (.seq (bQ (aP 2)) B) C))).wp Tryz.prog Q {tmps:=#[.slice p 0 c,.slice q 0 d]++Array.replicate 59 undef,defers:=[]} w:=by
  intro B C Q hQ
  simp only[aP,bQ,oe,av,Tryz.f21,Option.getD,ah,cO,Option.map,Array.replicate_succ,Array.replicate_zero,List.push_toArray,List.append_toArray,List.nil_append,List.cons_append]
  go_wp2_with fail
  rename_i K hK
  refine Code.wp_mono (fun e a w h=> ?_) (hQ _ ⟨rfl,rfl,rfl,rfl,rfl,rfl,rfl⟩)
  cases e<;>first|exact hK _ _ h|exact h
 refine first _ _ _ (fun a z=> ?_)
 refine wp_block (wp_loop_rounds (0+1) ?_)
 rw[rounds_succ]
 refine abQ a z _ (fun a2 z2=> ?_)
 show(ah 3 oe).wp _ _ a2 w
 exact W6 a2 z2 _ (fun a3 d0 d4=>⟨d0,_,abP d4,rfl,Below.refl _ _⟩)
theorem abT(L:List St)(W:List eP){w:World}{b0 b1 n m:Nat}{p q:Option Addr}{cap rq:Nat}(hk:∀s∈L,Rk s)(hA:KR L W)(hL:L.length<=1000000)(hn:L.length=n)(hm:W.length=m)(eO:w.ownsRow b0 35 9 (.slice p n cap) n (flat cQ L))
 (yW:w.ownsRow b1 29 5 (.slice q m rq) m (flat cw W)):
 Calls Tryz.prog 21 #[.slice p n cap,.slice q m rq] w fun en w'=>en= .returned (.bool true)∧Below w.heap.size w w':=by
 subst hn hm
 by_cases h0:L.length=0
 ·have h1:W.length=0:=by rw[←hA.1];exact h0
  rw[h0,h1]
  exact abS
 ·obtain⟨g,c1,e1,_,_⟩:=eO.form (by omega)
  obtain⟨gw,c2,e2,_,_⟩:=yW.form (by have:=hA.1;omega)
  rw[e1,e2]
  exact Jc L W hk hA hL (by rw[←e1];exact eO) (by rw[←e2];exact yW)
theorem wD.ac1{O:U}{L:List St}{W:List eP}(h:wD O L W):KR (L.take W.length) W:=by
 refine⟨by rw[List.length_take];have:=h.1;omega,fun i s t hs ht=> ?_⟩
 rw[List.getElem?_take]at hs
 split at hs
 ·exact(h.2 i s t hs ht).1
 ·cases hs
def ddB:U:=⟨#[46,46,10]⟩
def plF(s:U):Bool:=(decide (2<s.size)&&decide ((s.extract 0 3).toList=Gg.toList))||decide (0<=gM s ddB)
theorem abv{s:U}{k:Nat}{a b c:UInt8}(hk:k+3<=s.size)(h0:s.get! k=a)(h1:s.get! (k+1)=b)(h2:s.get! (k+2)=c):(s.extract k (k+3)).toList=(⟨#[a,b,c]⟩:U).toList:=by
 refine congrArg ByteArray.toList (fx ((aA _ _ _ hk).trans (by show k+3-k=3;omega)) (fun j hj=> ?_))
 rw[aA _ _ _ hk]at hj
 rw[a7 _ _ _ _ hk (by omega)]
 have:j=0∨j=1∨j=2:=by omega
 rcases this with rfl|rfl|rfl
 ·exact h0
 ·exact h1
 ·exact h2
theorem acZ{O:U}(hg:rT O (rR O))(hx:gM O ddB<0):NoD O:=by
 intro st hP h1 h2 h3
 have e0:=hP.byte (by omega) (by omega)
 have w0:=hP.pos (by omega)
 have w1:=hP.w
 have w2:=hP.n
 rw[h1]at e0
 have e0:(O.get! (st.p-1)).toNat=46:=by omega
 obtain⟨cs,hc⟩:=hg
 have ac9:rR O<=st.p-1:=by
  unfold rR
  split
  ·rename_i hb
   have n128:¬(O.get! 0).toNat<128:=fun hh=>by have:=hb.2;rw[ic hh]at this;simp only at this;omega
   by_cases hle:(Utf8.decode O 0).2<=st.p-1
   ·exact hle
   ·exfalso
    by_cases h0:st.p-1=0
    ·rw[h0]at e0;omega
    ·have:=tY n128 (st.p-1) (by omega) (by omega)
     omega
  ·exact Nat.zero_le _
 obtain⟨ds,hd⟩:=YG hc ac9 (by omega) (by omega)
 have ac2:rT O (st.p-1):=rT.on ⟨cs,hc⟩ hd
 have c0:bA O (st.p-1) 46 1:=by
  have:=cM (O:=O) (p:=st.p-1) (by omega) (by omega) (by omega)
  rw[e0]at this;exact this
 have g1:=ac2.step c0
 rw[show st.p-1+1=st.p by omega]at g1
 have n1:=(w9 (st:=st) rfl g1.jq).1
 have c1:=n1.at (by omega)
 rw[h2]at c1
 have Cs:=(c1.byte (by decide)).2
 have b1:=(c1.byte (by decide)).1
 rw[Cs]at c1
 have g2:=g1.step c1
 have UB:=n1.here
 rw[Cs]at UB
 have n2:=(w9 (st:=aa O st) UB g2.jq).1
 have c2:=n2.at (by omega)
 rw[h3]at c2
 have b2:=(c2.byte (by decide)).1
 have l2:=c2.lt
 have:=BC hx (st.p-1) (by show st.p-1+3<=_;omega)
 refine this (abv (by omega) (UInt8.toNat_inj.1 e0) ?_ ?_)
 ·rw[show st.p-1+1=st.p by omega];exact UInt8.toNat_inj.1 (by show _=46;omega)
 ·rw[show st.p-1+2=st.p+1 by omega];exact UInt8.toNat_inj.1 (by show _=10;omega)
theorem ab_{O:U}(hs:O.size<=2048)(h:(rC O).ai=0):rT O (rR O):=by
 obtain⟨t1,t2,t3⟩:=Uc hs (m:=0) (.inl rfl)
 have hn:=(t2 h).2.1 rfl
 refine GN (m:=0) hs ?_ hn
 by_cases h0:O.size=0
 ·exact .inl h0
 ·refine .inr (fun hz=> ?_)
  obtain⟨L,e,hT⟩:=DG _ _ (j9 O 0 hs) (Nat.lt_succ_self _)
  rw[(hT.all hs).2]at hn
  exact qd (j9 O 0 hs) (Ub hs (by omega) hz) L e hT hn
theorem dS(w:World)(s:U)(hs:s.size<=2147483647):Calls Tryz.prog 20 #[.string s] w fun e w'=>e= .returned (.bool (plF s))∧w'=w:=by
 have hX:=fun w=>oh w s ddB (by omega) (by decide)
 have hf:plF s=((decide (2<s.size)&&decide ((s.extract 0 3).toList=Gg.toList))||decide (0<=gM s ddB)):=rfl
 generalize gM s ddB=ix at hX hf
 unfold ddB at hX
 generalize plF s=r at hf⊢
 subst hf
 by_cases h2:2<s.size
 ·have h2':(2:Int)<(s.size:Int):=by omega
  have h3:(3:Int)<=(s.size:Int):=by omega
  have h3':3<=s.size:=by omega
  unfold Gg
  go_enter Tryz.func20,Tryz.ntmps20
  go_wp2_with (go_at_call 31;refine(hX _).mono ?_;rintro en w2 ⟨rfl,rfl⟩)
  all_goals
   rename_i hh
   first
    |exact⟨rfl,_,bK (k:=2) (by kernel_rfl) rfl,by simp[h2,hh],rfl⟩
    |(rename_i hh2;exact⟨rfl,_,bK (k:=2) (by kernel_rfl) rfl,by simp[h2,hh2],rfl⟩)
 ·have h2':¬(2:Int)<(s.size:Int):=by omega
  go_enter Tryz.func20,Tryz.ntmps20
  go_wp2_with (go_at_call 31;refine(hX _).mono ?_;rintro en w2 ⟨rfl,rfl⟩)
  all_goals exact⟨rfl,_,bK (k:=2) (by kernel_rfl) rfl,by simp[h2],rfl⟩
def zn(b:Nat)(x:LS):Prop:=x.rem.length<=b∧∀r∈x.rem,0<=r.line∧r.line<=b∧0<=r.aM∧r.aM<=b
theorem zn.le{b b':Nat}{x y:LS}(h:zn b x)(hb:b<=b')(he:y.rem=x.rem):zn b' y:=⟨by rw[he];exact Nat.le_trans h.1 hb,fun r hr=>by
 rw[he]at hr
 have:=h.2 r hr
 omega⟩
theorem aak{s:U}:∀(n:Nat) (x:LS),(bU s n x).rem=x.rem
 |0,x=>rfl
 |n+1,x=>by
  have h1:∀Y m,(br s Y m).rem=Y.rem:=fun Y m=>by unfold br;split<;>rfl
  rw[bU]
  split
  ·split
   ·rw[aak n,h1];rfl
   ·split
    ·rw[aak n,h1]
    ·rfl
  ·rfl
theorem aa6{s:U}{x y:LS}(hf:Fit s x)(h:zn (s.size+1) x)(hr:bT s x=some y):zn (s.size+1) y:=by
 have hl:=hf.line;have hs:=hf.st;have hp:=hf.le
 have tl:∀(z:LS) (t:U),z.rem=x.rem->zn (s.size+1) {z with rem:=z.rem++[⟨t,x.line,(x.p:Int)-x.st+1⟩]}:=fun z t he=>⟨by show(z.rem++[_]).length<=_;rw[List.length_append,he];show x.rem.length+1<=_;have:=hf.rem;omega,fun r hm=>by
  rcases List.mem_append.1 hm with hm|hm
  ·rw[he]at hm;exact h.2 r hm
  ·simp only[List.mem_singleton]at hm
   subst hm
   refine⟨by show(0:Int)<=(x.line:Int);omega,by show(x.line:Int)<=_;omega,by show(0:Int)<=(x.p:Int)-x.st+1;omega,by show(x.p:Int)-x.st+1<=_;omega⟩⟩
 unfold bT at hr
 simp only at hr
 split at hr
 ·rw[Option.some.injEq]at hr
  subst hr
  exact tl _ _ (u_ _ _).1
 ·split at hr
  ·split at hr
   ·rw[Option.some.injEq]at hr
    subst hr
    exact h.le (Nat.le_refl _) rfl
   ·rw[Option.some.injEq]at hr
    subst hr
    refine tl _ _ ?_
    rw[ql]
    split<;>rfl
  ·cases hr
theorem aaZ{s:U}:∀(n:Nat) (x:LS),(x.ai=0->Fit s x∧(x.p=0->(Utf8.decode s 0).1≠65279))->zn (s.size+1) x->(fD s n x).ai=0->zn (s.size+1) (fD s n x)
 |0,x,_,h,_=>h
 |n+1,x,hx,h,hs=>by
  by_cases h0:x.ai=0
  ·obtain⟨fit,b0⟩:=hx h0
   obtain⟨g1,g2,g3⟩:=Fit.blank s.size x fit
   have hz:=aak (s:=s) s.size x
   rw[fD,if_pos h0]at hs⊢
   unfold iC at hs⊢
   simp only at hs⊢
   generalize bU s s.size x=z at*
   have hzr:zn (s.size+1) z:=h.le (Nat.le_refl _) hz
   by_cases oJ:s.size<=z.p
   ·rw[if_pos oJ]at hs⊢
    simp only[if_true]at hs⊢
    exact hzr.le (Nat.le_refl _) rfl
   ·rw[if_neg oJ]at hs⊢
    have Eh:z.ai=0:=g2.trans h0
    generalize hy:(bT s z).getD (bR s z)=y at hs⊢
    have hy0:y.ai=0:=by
     by_cases hh:y.ai=0
     ·exact hh
     ·exfalso
      split at hs
      ·rw[if_neg (show¬(false=true)by decide),nr n _ (show({y with out:=y.out.take y.fst}:LS).ai≠0 from hh)]at hs
       exact hh hs
      ·rw[if_neg (show¬(false=true)by decide),nr n _ (show y.ai≠0 from hh)]at hs
       exact hh hs
    rw[if_neg (show¬(y.ai≠0∧z.p=y.stop∧0<y.out.length) from fun hh=>hh.1 hy0)]at hs⊢
    simp only[if_neg (show¬(false=true)by decide)]at hs⊢
    cases hr:bT s z with
    |some v=>
     rw[hr]at hy
     have hy:v=y:=hy
     subst hy
     obtain⟨f1,f2⟩:=(g1.zD Eh (by omega) hr).2 hy0
     exact aaZ n v (fun _=>⟨f1,fun e=>by omega⟩) (aa6 g1 hzr hr) hs
    |none=>
     rw[hr]at hy
     have hy:bR s z=y:=hy
     subst hy
     obtain⟨f1,f2⟩:=g1.token Eh (by omega) (fun e=>b0 (by omega)) hy0
     obtain⟨k,cls,kind,k1,k2,k3,k4,k5⟩:=Uj Eh (by omega) (fun e=>b0 (by omega)) hy0
     exact aaZ n _ (fun _=>⟨f1,fun e=>by omega⟩) (hzr.le (Nat.le_refl _) k4.rem) hs
  ·rw[nr (n+1) x h0]
   exact h
theorem aca{s:U}(h:(rC s).ai=0):zn (s.size+1) (rC s):=by
 obtain⟨b1,b2,b3⟩:=xq s
 exact aaZ (s.size+1) (Gh s) (fun _=>⟨ON,fun e=>b3 (by omega)⟩) ⟨Nat.zero_le _,fun r hr=>absurd hr List.not_mem_nil⟩ h
structure SCo(s:U)(vm vr vn vi:Value)(a:Act):Prop where
 defers:a.defers=[]
 size:a.tmps.size=Tryz.f6.ntmps
 g0:a.tmps.getD 0 undef= .string s
 g4:a.tmps.getD 4 undef=vm
 g44:a.tmps.getD 44 undef=vr
 g45:a.tmps.getD 45 undef=vn
 g46:a.tmps.getD 46 undef=vi
abbrev dD:Code:=av Tryz.f6
abbrev aav:Code:=a_ (aX dD 0)
theorem acf{w:World}{s:U}{g cap gw rq n i:Nat}{li co:Int}{tx:U}(hi:i<n)(hn:n<=1000000)
 (c0:w.cell? ⟨g,i*3,none⟩=some (.int .i64 li))(c1:w.cell? ⟨g,i*3+1,none⟩=some (.int .i64 co))(c2:w.cell? ⟨g,i*3+2,none⟩=some (.string tx))
 (k0:w.cell? ⟨gw,i*3,none⟩=some (.string tx))(k1:w.cell? ⟨gw,i*3+1,none⟩=some (.int .i64 li))(k2:w.cell? ⟨gw,i*3+2,none⟩=some (.int .i64 co))
 {a:Act}(hz:SCo s (.slice (some ⟨gw,0,none⟩) n rq) (.slice (some ⟨g,0,none⟩) n cap) (.int .i64 n) (.int .i64 i) a){Q:Exit->Act->World->Prop}
 (hQ:∀a' w',SCo s (.slice (some ⟨gw,0,none⟩) n rq) (.slice (some ⟨g,0,none⟩) n cap) (.int .i64 n) (.int .i64 (i+1:Nat)) a'->Below w.heap.size w w'->Q .normal a' w'):aav.wp Tryz.prog Q a w:=by
 obtain⟨hd,hs,e0,e4,e44,e45,e46⟩:=hz
 rw[show Tryz.f6.ntmps=85 by kernel_rfl]at hs
 obtain⟨y,hy,ha⟩:=df 85 a hd hs
 rw[ha]
 rw[←hy]at e0 e4 e44 e45 e46
 clear ha hy hd hs
 have hgw:=World.block_lt_of_cell? w _ k0
 have FH:(0:Int)<=(i:Int):=by omega
 have hi1:(i:Int)<(n:Int):=by omega
 have mv:∀{j:Nat} {u:Value},w.cell? ⟨gw,j,none⟩=some u->∀o,(w.alloc o).cell? ⟨gw,j,none⟩=some u:=fun{j u} hc o=>by
  rw[World.cell?_of_block (w:=w) (a:=⟨gw,j,none⟩) (Below.heap_alloc _ _ _ hgw)];exact hc
 have q0:=mv k0
 have q1:=mv k1
 have q2:=mv k2
 have hIB:=fun w=>cX w s 13
 generalize Lib.indexByte s.data.toList (13:Int).toNat.toUInt8=ib at hIB
 simp only[aav,dD,av,Tryz.f6,Option.getD,aX,a_,cond,Nat.beq,List.range,List.range.loop,List.map]
 rw[e0,e4,e44,e45,e46]
 clear k0 k1 k2 mv
 have fin:∀m,Below w.heap.size w ((w.alloc (.cells #[.int .i64 li,.int .i64 co,.string tx] 51)).drewN m):=fun m=>(Below.alloc (Below.refl _ _) (Nat.le_refl _) _).trans (below_drewN _ _ _)
 by_cases hb:ib<0
 ·go_wp2_with fail
  go_quiet ((go_at_call 22;exact Calls.quiet_of_same (hIB _)))
  go_wp2_with fail
  exact hQ _ _ ⟨rfl,rfl,rfl,rfl,rfl,rfl,rfl⟩ (fin _)
 ·have fm:decide (ib<0)=false:=decide_eq_false hb
  go_wp2_with fail
  go_quiet ((go_at_call 22;exact Calls.quiet_of_same (hIB _)))
  go_wp2_with fail
  exact hQ _ _ ⟨rfl,rfl,rfl,rfl,rfl,rfl,rfl⟩ (fin _)
abbrev coP(n:Nat):Code:=bQ (ah n dD)
theorem acy:dD= .seq (coP 0) (.seq (coP 1) (.seq (coP 2) (.seq (coP 3) (.seq (coP 4) (.seq (coP 5) (.seq (coP 6) (.seq (.seq (bQ (coP 7)) (.block 0 (.loop aav))) (ah 8 dD)))))))):=by kernel_rfl
theorem ac0{w:World}{s:U}{n:Nat}{vm vr:Value}{a:Act}(hz:SCo s vm vr (.int .i64 n) (.int .i64 n) a){Q:Exit->Act->World->Prop}
 (hQ:∀a',a'.defers=[]->a'.tmps.size=85->Q (.exit 0) a' w):aav.wp Tryz.prog Q a w:=by
 obtain⟨hd,hs,e0,e4,e44,e45,e46⟩:=hz
 rw[show Tryz.f6.ntmps=85 by kernel_rfl]at hs
 obtain⟨y,hy,ha⟩:=df 85 a hd hs
 rw[ha]
 rw[←hy]at e0 e4 e44 e45 e46
 clear ha hy hd hs
 simp only[aav,dD,av,Tryz.f6,Option.getD,aX,a_,cond,Nat.beq,List.range,List.range.loop,List.map]
 rw[e0,e4,e44,e45,e46]
 have bz:¬((n:Int)<(n:Int)):=by omega
 go_wp2_with fail
 all_goals first|exact rfl|exact hQ _ rfl rfl
theorem acA{w:World}{a:Act}(hd:a.defers=[])(hs:a.tmps.size=85){Q:Exit->Act->World->Prop}(hQ:∀a',a'.defers=[]->a'.tmps[2]? =some (.bool true)->Q .ret a' w):(ah 8 dD).wp Tryz.prog Q a w:=by
 obtain⟨y,hy,ha⟩:=df 85 a hd hs
 rw[ha]
 clear ha hy hd hs
 simp only[dD,av,Tryz.f6,Option.getD,ah,cO,Option.map,List.range,List.range.loop,List.map]
 go_wp2_with fail
 all_goals first|exact rfl|exact hQ _ rfl rfl
theorem abN(R:List Dh)(s:U){wS:World}{p pm:Option Addr}{cap rq b0 b1:Nat}(hL:R.length<=1000000)(hb:∀r∈R,0<=r.line∧r.line<=5000∧0<=r.aM∧r.aM<=5000)
 (eO:wS.ownsRow b0 51 3 (.slice p R.length cap) R.length (flat fI (R.map afP)))(yW:wS.ownsRow b1 53 3 (.slice pm R.length rq) R.length (flat di R))(Q:Exit->Act->World->Prop)
 (hQ:∀a w,a.defers=[]->a.tmps.size=85->Below wS.heap.size wS w->Q .normal a w):
 ∀(d i:Nat) (a:Act) (w:World),i+d=R.length->SCo s (.slice pm R.length rq) (.slice p R.length cap) (.int .i64 R.length) (.int .i64 i) a->Below wS.heap.size wS w->
  Code.rounds Tryz.prog aav (Exit.inBlock 0 Q) (d+1) a w
 |0,i,a,w,hi,hz,hB=>by
  have hi:i=R.length:=by omega
  subst hi
  rw[rounds_succ]
  exact ac0 hz (fun a' h1 h2=>hQ a' w h1 h2 hB)
 |d+1,i,a,w,hi,hz,hB=>by
  have bz:i<R.length:=by omega
  obtain⟨g,c1,e1,_,_⟩:=eO.form (by omega)
  obtain⟨gw,c2,e2,_,_⟩:=yW.form (by omega)
  cases e1
  cases e2
  obtain⟨r,hr⟩:∃r,R[i]? =some r:=⟨R[i],List.getElem?_eq_getElem bz⟩
  have hbr:=hb r (List.mem_of_getElem? hr)
  have cell:∀j u,j<3->(fI (afP r))[j]? =some u->w.cell? ⟨g,i*3+j,none⟩=some u:=fun j u hj hu=>by
   have hm:(R.map afP)[i]? =some (afP r):=by rw[List.getElem?_map,hr];rfl
   have h1:(flat fI (R.map afP))[i*3+j]? =some u:=(nh (k:=3) (fun _=>rfl) (R.map afP) i j (afP r) hm hj).trans hu
   have h2:=i_ eO h1
   rw[World.cell?_of_block (w:=wS) (a:=⟨g,i*3+j,none⟩) (hB.block _ (World.block_lt_of_cell? _ _ h2))]
   exact h2
  have ack:∀j u,j<3->(di r)[j]? =some u->w.cell? ⟨gw,i*3+j,none⟩=some u:=fun j u hj hu=>by
   have h1:(flat di R)[i*3+j]? =some u:=(nh (k:=3) (fun _=>rfl) R i j r hr hj).trans hu
   have h2:=i_ yW h1
   rw[World.cell?_of_block (w:=wS) (a:=⟨gw,i*3+j,none⟩) (hB.block _ (World.block_lt_of_cell? _ _ h2))]
   exact h2
  have w1:wrap64 r.line=r.line:=(by unfold wrap64;omega)
  have w2:wrap64 r.aM=r.aM:=(by unfold wrap64;omega)
  have k0:=cell 0 _ (by decide) rfl
  have k1:=cell 1 _ (by decide) rfl
  have k2:=cell 2 _ (by decide) rfl
  have k0:w.cell? ⟨g,i*3,none⟩=some (.int .i64 (wrap64 r.line)):=k0
  have k1:w.cell? ⟨g,i*3+1,none⟩=some (.int .i64 (wrap64 r.aM)):=k1
  have k2:w.cell? ⟨g,i*3+2,none⟩=some (.string r.text):=k2
  rw[w1]at k0
  rw[w2]at k1
  rw[rounds_succ]
  refine acf bz hL k0 k1 k2 (ack 0 _ (by decide) rfl) (ack 1 _ (by decide) rfl) (ack 2 _ (by decide) rfl) hz (fun a' w' z' b'=> ?_)
  show Code.rounds Tryz.prog aav (Exit.inBlock 0 Q) (d+1) a' w'
  exact abN R s hL hb eO yW Q hQ d (i+1) a' w' (by omega) z' (hB.trans (fJ b' hB.size))
theorem acK{w:World}{s:U}(h:1000<s.size):Calls Tryz.prog 6 #[.string s] w fun en w'=>en= .returned (.bool true)∧Below w.heap.size w w':=by
 have h1:(1000:Int)<(s.size:Int):=by omega
 go_enter Tryz.func6,Tryz.ntmps6
 go_wp2_with fail
 all_goals exact⟨rfl,_,bK (k:=2) (by kernel_rfl) rfl,rfl,Below.refl _ _⟩
theorem acX{w:World}{ea:Addr}{O:U}(hG:oU w ea)(hs:O.size<=1000)(h:(rC O).ai≠0∨plF O=true):Calls Tryz.prog 6 #[.string O] w fun en w'=>en= .returned (.bool true)∧Below w.heap.size w w':=by
 have h1:¬(1000:Int)<(O.size:Int):=by omega
 have h2:¬(2147483647:Int)<(O.size:Int):=by omega
 have hL:=Uv (O:=O) hG (by omega)
 have hP:=fun w'=>dS w' O (by omega)
 generalize(rC O).out=W at*
 generalize(rC O).rem=R at*
 generalize(rC O).ai=st at*
 generalize plF O=b at*
 by_cases h0:st=0
 ·subst h0
  have hb:b=true:=h.resolve_left (fun hh=>hh rfl)
  subst hb
  clear h
  go_enter Tryz.func6,Tryz.ntmps6
  go_wp2_with (first
   |(go_at_call 20;refine(hP _).mono ?_;rintro en w2 ⟨rfl,rfl⟩)
   |(go_at_call 10;refine hL.mono ?_;rintro en w1 ⟨po,co,pr,cr,rfl,o1,o2,lB⟩))
  all_goals exact⟨rfl,_,bK (k:=2) (by kernel_rfl) rfl,rfl,lB⟩
 ·have h01:((st:Int) != 0)=true:=by simp;omega
  clear h
  go_enter Tryz.func6,Tryz.ntmps6
  go_wp2_with (go_at_call 10;refine hL.mono ?_;rintro en w1 ⟨po,co,pr,cr,rfl,o1,o2,lB⟩)
  all_goals exact⟨rfl,_,bK (k:=2) (by kernel_rfl) rfl,rfl,lB⟩
theorem acn{w:World}{ea:Addr}{O:U}(hG:oU w ea)(hs:O.size<=1000)(h0:(rC O).ai=0)(hp:plF O=false)(B C:Code){Q:Exit->Act->World->Prop}
 (hQ:∀p cap pm rq a w',w'.ownsRow w.heap.size 51 3 (.slice p (rC O).rem.length cap) (rC O).rem.length (flat fI ((rC O).rem.map afP))->w'.ownsRow w.heap.size 53 3 (.slice pm (rC O).rem.length rq) (rC O).rem.length (flat di (rC O).rem)->Below w.heap.size w w'->
   SCo O (.slice pm (rC O).rem.length rq) (.slice p (rC O).rem.length cap) (.int .i64 (rC O).rem.length) (.int .i64 (0:Nat)) a->B.wp Tryz.prog (Exit.then (fun a w=>C.wp Tryz.prog Q a w) Q) a w')(hD:NoD O):
 (Code.seq (coP 0) (.seq (coP 1) (.seq (coP 2) (.seq (coP 3) (.seq (coP 4) (.seq (coP 5) (.seq (coP 6) (.seq (.seq (bQ (coP 7)) B) C)))))))).wp Tryz.prog Q {tmps:=#[.string O]++Array.replicate 84 undef,defers:=[]} w:=by
 have h1:¬(1000:Int)<(O.size:Int):=by omega
 have h2:¬(2147483647:Int)<(O.size:Int):=by omega
 have hn:O.size<=2048:=by omega
 obtain⟨t1,t2,t3⟩:=Uc hn (m:=1) (.inr rfl)
 obtain⟨t4,t5⟩:=t2 h0
 have yV:=t5.2 rfl hD
 have hL:=Uv (O:=O) hG (by omega)
 have hP:=fun w'=>dS w' O (by omega)
 have hk:∀s∈iZ O 1,Rk s:=fun s hs=>by
  obtain⟨i,hi⟩:=List.mem_iff_getElem?.1 hs
  exact((uJ 1 hn).at i s hi).1.rk
 have hlen:=Ft O 1 hn
 have acp:=t1.ac1
 rw[←t4,List.take_length]at acp
 have hS:∀w',Below w.heap.size w w'->Calls Tryz.prog 13 #[.string O,.int .i64 1] w' fun en w2=>∃q cap p c2,en= .returned (.tuple #[.slice q (rC O).out.length cap,.slice p (rC O).rem.length c2])∧
  w2.ownsRow w'.heap.size 35 9 (.slice q (rC O).out.length cap) (rC O).out.length (flat cQ (iZ O 1))∧
  w2.ownsRow w'.heap.size 51 3 (.slice p (rC O).rem.length c2) (rC O).rem.length (flat fI ((rC O).rem.map afP))∧Below w'.heap.size w' w2:=fun w' hB=>by
  have:=Bu (Bv hG hB) hn 1
  rw[show IntKind.u64.wrap 1=1 from by decide,yV,List.length_map,t4]at this
  refine this.mono ?_
  rintro en w2 ⟨v,ve,rfl,r1,r2,r3⟩
  obtain⟨q,cap,rfl⟩:=jE r1
  obtain⟨p,c2,rfl⟩:=jE r2
  exact⟨q,cap,p,c2,rfl,r1,r2,r3⟩
 have hA:∀{w':World} {b0 b1 cap rq:Nat} {q qw:Option Addr},w'.ownsRow b0 35 9 (.slice q (rC O).out.length cap) (rC O).out.length (flat cQ (iZ O 1))->w'.ownsRow b1 29 5 (.slice qw (rC O).out.length rq) (rC O).out.length (flat cw (rC O).out)->
  Calls Tryz.prog 21 #[.slice q (rC O).out.length cap,.slice qw (rC O).out.length rq] w' fun en w2=>en= .returned (.bool true)∧Below w'.heap.size w' w2:=fun r1 r2=>
  abT (iZ O 1) (rC O).out hk acp (by omega) t4 rfl r1 r2
 rw[h0]at hL
 rw[hp]at hP
 clear h0 hp t1 t2 t3 t4 t5 hk acp yV hlen hD
 generalize(iZ O 1)=L at*
 generalize(rC O).out=W at*
 generalize(rC O).rem=R at*
 simp only[coP,bQ,dD,av,Tryz.f6,Option.getD,ah,cO,Option.map,Array.replicate_succ,Array.replicate_zero,List.push_toArray,List.append_toArray,List.nil_append,List.cons_append]
 go_wp2_with (first
  |(go_at_call 21;refine(hA s1 (iH sB o1)).mono ?_;rintro en w4 ⟨rfl,aB⟩)
  |(go_at_call 13;refine(hS _ lB).mono ?_;rintro en w3 ⟨q,cap,p,c2,rfl,s1,s2,sB⟩)
  |(go_at_call 20;refine(hP _).mono ?_;rintro en w2 ⟨rfl,rfl⟩)
  |(go_at_call 10;refine hL.mono ?_;rintro en w1 ⟨po,co,pr,cr,rfl,o1,o2,lB⟩))
 rename_i K hK
 have sz:=lB.size
 have sz2:=sB.size
 refine Code.wp_mono (fun e a w h=> ?_) (hQ p c2 pr cr _ w4 (pv (iH aB s2) lB.size) (iH aB (iH sB o2)) (lB.trans (fJ (sB.trans (fJ aB sB.size)) lB.size)) ⟨rfl,rfl,rfl,rfl,rfl,rfl,rfl⟩)
 cases e<;>first|exact hK _ _ h|exact h
theorem aaK{w:World}{ea:Addr}(O:U)(hG:oU w ea):Calls Tryz.prog 6 #[.string O] w fun en w'=>en= .returned (.bool true)∧Below w.heap.size w w':=by
 by_cases h:1000<O.size
 ·exact acK h
 have hs:O.size<=1000:=by omega
 by_cases h0:(rC O).ai=0
 ·cases hp:plF O with
  |true=>exact acX hG hs (.inr hp)
  |false=>
   have hn:O.size<=2048:=by omega
   have hx:gM O ddB<0:=by
    unfold plF at hp
    simp only[Bool.or_eq_false_iff,decide_eq_false_iff_not]at hp
    have:=hp.2
    omega
   have hD:=acZ (ab_ hn h0) hx
   have hb:=aca h0
   refine calls_of_wp Tryz.func6 (c:=dD) (by kernel_rfl) ?_
   have yV:(Tryz.f6).ntmps-(#[.string O]:Array Value).size=84:=by kernel_rfl
   rw[yV,acy]
   refine acn hG hs h0 hp _ _ (fun p cap pm rq a w1 r1 r2 hB z=> ?_) hD
   refine wp_block (wp_loop_rounds ((rC O).rem.length+1) ?_)
   have hl:(rC O).rem.length<=1000000:=Nat.le_trans hb.1 (by omega)
   refine abN (rC O).rem O hl (fun r hr=>by have:=hb.2 r hr;omega) r1 r2 _ (fun a2 w2 d2 s2 b2=> ?_) _ 0 a w1 (Nat.zero_add _) z (Below.refl _ _)
   show(ah 8 dD).wp _ _ a2 w2
   exact acA d2 s2 (fun a3 d0 d4=>⟨d0,_,bK (k:=2) (by kernel_rfl) d4,rfl,hB.trans (fJ b2 hB.size)⟩)
 ·exact acX hG hs (.inl h0)
end
end Sc
end Go.Proofs.YtogkcphobhhbdaaGreatDoor
