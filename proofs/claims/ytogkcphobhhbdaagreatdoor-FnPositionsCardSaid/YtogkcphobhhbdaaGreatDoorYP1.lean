/- The scanner of the program told as plain functions, part 1: texts joined and shortened by a program (wip/tools/mini.py). -/
import Derived.Test.YtogkcphobhhbdaaGreatDoorYc20
import Derived.WalkKit
import Derived.StillTail
import Derived.KernelRfl
import Derived.Shelf.Abstract
import Derived.Laws.CopyRow
import GoSem.Core.Utf8
import GoSem.Core.View
import Derived.Test.YtogkcphobhhbdaaGreatDoorProg
import Derived.Shelf.Unicode.PredsPay
import Derived.Shelf.Unicode.DecodeAny
import Derived.WalkSpells
import Derived.OneCell
import Derived.Deep.QuietTactic
import Derived.BigQuiet
import Derived.Lib.Hide
import Derived.Handy
import Derived.Laws.CopyOwn
import Derived.Room.AppendOwn
import Derived.Deep.DeepAppendRoom
import Derived.ScopeJumps
import Derived.Shelf.Lays7
import Derived.Shelf.Spec.DecodeRune
import Derived.Shelf.Strings.MapAny
import Derived.Lib.ConvBytes
import Derived.WalkSmall
import Derived.Shelf.LaysM
import Derived.Shelf.Strconv.Itoa4
import Derived.Deep.RegionHeld3
import Derived.Deep.AppendLies
import Derived.Shelf.Strings.Search1
import Derived.Shelf.Strings.Prefix
import Derived.Lib.OthersKept
import Derived.Lib.DecodeN
import Derived.Laws.BitsLemmas
import Derived.Laws.BytesArg
import Derived.Lib.RuneBytes
import Derived.BigRegion
import Derived.Test.YtogkcphobhhbdaaGreatDoorRows
import Derived.PinnedBridge
import Derived.Lib.LaidRTabT
import Derived.Lib.LaidU8T
import Derived.Stop.LaidErr
import Derived.Lay
import Derived.LaidMore
import Derived.ProofKit
import Derived.OpenShut
import Derived.OpenVars
import Derived.SevenTiedAt
import Derived.Stop.Joined
set_option linter.unusedVariables false
set_option linter.unusedSimpArgs false
set_option maxHeartbeats 32000000
namespace Go.Proofs.YtogkcphobhhbdaaGreatDoor
open Go Go.RowKit Go.Lib
namespace Sc
open Ev
set_option maxRecDepth 100000
noncomputable section
def ddB:U:=⟨#[46,46,10]⟩
def plF(s:U):Bool:=(decide (2<s.size)&&decide ((s.extract 0 3).toList=Gg.toList))||decide (0<=gM s ddB)
theorem aaK{s:U}{k:Nat}{a b c:UInt8}(hk:k+3<=s.size)(h0:s.get! k=a)(h1:s.get! (k+1)=b)(h2:s.get! (k+2)=c):(s.extract k (k+3)).toList=(⟨#[a,b,c]⟩:U).toList:=by
 refine congrArg ByteArray.toList (fx ((aA _ _ _ hk).trans (by show k+3-k=3;omega)) (fun j hj=> ?_))
 rw[aA _ _ _ hk]at hj
 rw[a7 _ _ _ _ hk (by omega)]
 have:j=0∨j=1∨j=2:=by omega
 rcases this with rfl|rfl|rfl
 ·exact h0
 ·exact h1
 ·exact h2
theorem ab6{O:U}(hg:rT O (rR O))(hx:gM O ddB<0):NoD O:=by
 intro st hP h1 h2 h3
 have e0:=hP.byte (by omega) (by omega)
 have w0:=hP.pos (by omega)
 have w1:=hP.w
 have w2:=hP.n
 rw[h1]at e0
 have e0:(O.get! (st.p-1)).toNat=46:=by omega
 obtain⟨cs,hc⟩:=hg
 have acK:rR O<=st.p-1:=by
  unfold rR
  split
  ·rename_i hb
   have n128:¬(O.get! 0).toNat<128:=fun hh=>by have:=hb.2;rw[ic hh]at this;simp only at this;omega
   by_cases hle:(Utf8.decode O 0).2<=st.p-1
   ·exact hle
   ·exfalso
    by_cases h0:st.p-1=0
    ·rw[h0]at e0;omega
    ·have:=tY n128 (st.p-1) (by omega) (by omega)
     omega
  ·exact Nat.zero_le _
 obtain⟨ds,hd⟩:=YG hc acK (by omega) (by omega)
 have acf:rT O (st.p-1):=rT.on ⟨cs,hc⟩ hd
 have c0:bA O (st.p-1) 46 1:=by
  have:=cM (O:=O) (p:=st.p-1) (by omega) (by omega) (by omega)
  rw[e0]at this;exact this
 have g1:=acf.step c0
 rw[show st.p-1+1=st.p by omega]at g1
 have n1:=(w9 (st:=st) rfl g1.jq).1
 have c1:=n1.at (by omega)
 rw[h2]at c1
 have Cs:=(c1.byte (by decide)).2
 have b1:=(c1.byte (by decide)).1
 rw[Cs]at c1
 have g2:=g1.step c1
 have UB:=n1.here
 rw[Cs]at UB
 have n2:=(w9 (st:=aa O st) UB g2.jq).1
 have c2:=n2.at (by omega)
 rw[h3]at c2
 have b2:=(c2.byte (by decide)).1
 have l2:=c2.lt
 have:=BC hx (st.p-1) (by show st.p-1+3<=_;omega)
 refine this (aaK (by omega) (UInt8.toNat_inj.1 e0) ?_ ?_)
 ·rw[show st.p-1+1=st.p by omega];exact UInt8.toNat_inj.1 (by show _=46;omega)
 ·rw[show st.p-1+2=st.p+1 by omega];exact UInt8.toNat_inj.1 (by show _=10;omega)
theorem aaZ{O:U}(hs:O.size<=2048)(h:(rC O).ai=0):rT O (rR O):=by
 obtain⟨t1,t2,t3⟩:=Uc hs (m:=0) (.inl rfl)
 have hn:=(t2 h).2.1 rfl
 refine GN (m:=0) hs ?_ hn
 by_cases h0:O.size=0
 ·exact .inl h0
 ·refine .inr (fun hz=> ?_)
  obtain⟨L,e,hT⟩:=DG _ _ (j9 O 0 hs) (Nat.lt_succ_self _)
  rw[(hT.all hs).2]at hn
  exact qd (j9 O 0 hs) (Ub hs (by omega) hz) L e hT hn
theorem dS(w:World)(s:U)(hs:s.size<=2147483647):Calls Tryz.prog 20 #[.string s] w fun e w'=>e= .returned (.bool (plF s))∧w'=w:=by
 have hX:=fun w=>oh w s ddB (by omega) (by decide)
 have hf:plF s=((decide (2<s.size)&&decide ((s.extract 0 3).toList=Gg.toList))||decide (0<=gM s ddB)):=rfl
 generalize gM s ddB=ix at hX hf
 unfold ddB at hX
 generalize plF s=r at hf⊢
 subst hf
 by_cases h2:2<s.size
 ·have h2':(2:Int)<(s.size:Int):=by omega
  have h3:(3:Int)<=(s.size:Int):=by omega
  have h3':3<=s.size:=by omega
  unfold Gg
  go_enter Tryz.func20,Tryz.ntmps20
  go_wp2_with (go_at_call 31;refine(hX _).mono ?_;rintro en w2 ⟨rfl,rfl⟩)
  all_goals
   rename_i hh
   first
    |exact⟨rfl,_,bK (k:=2) (by kernel_rfl) rfl,by simp[h2,hh],rfl⟩
    |(rename_i hh2;exact⟨rfl,_,bK (k:=2) (by kernel_rfl) rfl,by simp[h2,hh2],rfl⟩)
 ·have h2':¬(2:Int)<(s.size:Int):=by omega
  go_enter Tryz.func20,Tryz.ntmps20
  go_wp2_with (go_at_call 31;refine(hX _).mono ?_;rintro en w2 ⟨rfl,rfl⟩)
  all_goals exact⟨rfl,_,bK (k:=2) (by kernel_rfl) rfl,by simp[h2],rfl⟩
structure SPs(vw vr vn vi:Value)(a:Act):Prop where
 defers:a.defers=[]
 size:a.tmps.size=80
 g3:a.tmps.getD 3 undef=vw
 g38:a.tmps.getD 38 undef=vr
 g39:a.tmps.getD 39 undef=vn
 g40:a.tmps.getD 40 undef=vi
abbrev dD:Code:=av Tryz.f8
abbrev zn:Code:=a_ (aX dD 0)
theorem ab_{s:U}(h:s.size≠0):s.toList.isEmpty=false:=by
 cases hs:s.toList with
 |nil=>exact absurd (by rw[toList_inj (a:=s) (b:=⟨#[]⟩) (by rw[hs];kernel_rfl)];rfl) h
 |cons a l=>rfl
theorem aa6{w:World}{g cap gw rq n i:Nat}{li co kd pr:Int}{bk bd:Bool}{nm lt op:U}{t:eP}(hi:i<n)(hn:n<=1000000)(hr:ae4 w g i li co kd pr bk bd nm lt op)(hw:ae6 w gw i t)
 (hp:(t.cls≠4∨t.text.size≠0)->li=t.line∧co=t.aM){a:Act}(hz:SPs (.slice (some ⟨gw,0,none⟩) n rq) (.slice (some ⟨g,0,none⟩) n cap) (.int .i64 n) (.int .i64 i) a){Q:Exit->Act->World->Prop}
 (hQ:∀a' w',SPs (.slice (some ⟨gw,0,none⟩) n rq) (.slice (some ⟨g,0,none⟩) n cap) (.int .i64 n) (.int .i64 (i+1:Nat)) a'->Below w.heap.size w w'->Q .normal a' w'):zn.wp Tryz.prog Q a w:=by
 obtain⟨hd,hs,e3,e38,e39,e40⟩:=hz
 obtain⟨y,hy,ha⟩:=df 80 a hd hs
 rw[ha]
 rw[←hy]at e3 e38 e39 e40
 clear ha hy hd hs
 obtain⟨c0,c1,c2,c3,c4,c5,c6,c7,c8⟩:=hr
 obtain⟨k0,k1,k2,k3,k4⟩:=hw
 obtain⟨cls,text,kind,wl,wc⟩:=t
 simp only at hp k0 k1 k2 k3 k4
 have hgw:=World.block_lt_of_cell? w _ k0
 have FH:(0:Int)<=(i:Int):=by omega
 have hi1:(i:Int)<(n:Int):=by omega
 have mv:∀{j:Nat} {u:Value},w.cell? ⟨gw,j,none⟩=some u->∀o,(w.alloc o).cell? ⟨gw,j,none⟩=some u:=fun{j u} hc o=>by
  rw[World.cell?_of_block (w:=w) (a:=⟨gw,j,none⟩) (Below.heap_alloc _ _ _ hgw)];exact hc
 have q0:=mv k0
 have q1:=mv k1
 have q3:=mv k3
 have q4:=mv k4
 simp only[zn,dD,av,Tryz.f8,Option.getD,aX,a_,cond,Nat.beq,List.range,List.range.loop,List.map]
 rw[e3,e38,e39,e40]
 clear k0 k1 k2 k3 k4 mv
 by_cases h4:cls=4
 ·subst h4
  by_cases ht:text.size=0
  ·obtain rfl:text=⟨#[]⟩:=fx ht (fun j hj=>by omega)
   clear hp
   go_wp2_with fail
   go_quiet (fail)
   go_wp2_with fail
   exact hQ _ _ ⟨rfl,rfl,rfl,rfl,rfl,rfl⟩ ((Below.alloc (Below.refl _ _) (Nat.le_refl _) _).trans (below_drewN _ _ _))
  ·obtain⟨rfl,rfl⟩:=hp (.inr ht)
   have dH:=ab_ ht
   clear hp
   go_wp2_with fail
   go_quiet (fail)
   go_wp2_with fail
   exact hQ _ _ ⟨rfl,rfl,rfl,rfl,rfl,rfl⟩ ((Below.alloc (Below.refl _ _) (Nat.le_refl _) _).trans (below_drewN _ _ _))
 ·obtain⟨rfl,rfl⟩:=hp (.inl h4)
  have h4':(cls != 4)=true:=by simpa using h4
  clear hp
  go_wp2_with fail
  go_quiet (fail)
  go_wp2_with fail
  exact hQ _ _ ⟨rfl,rfl,rfl,rfl,rfl,rfl⟩ ((Below.alloc (Below.refl _ _) (Nat.le_refl _) _).trans (below_drewN _ _ _))
abbrev psP(n:Nat):Code:=bQ (ah n dD)
theorem abt:dD= .seq (psP 0) (.seq (psP 1) (.seq (psP 2) (.seq (psP 3) (.seq (psP 4) (.seq (psP 5) (.seq (psP 6) (.seq (.seq (bQ (psP 7)) (.block 0 (.loop zn))) (ah 8 dD)))))))):=by kernel_rfl
theorem aca{w:World}{n:Nat}{vw vr:Value}{a:Act}(hz:SPs vw vr (.int .i64 n) (.int .i64 n) a){Q:Exit->Act->World->Prop}
 (hQ:∀a',a'.defers=[]->a'.tmps.size=80->Q (.exit 0) a' w):zn.wp Tryz.prog Q a w:=by
 obtain⟨hd,hs,e3,e38,e39,e40⟩:=hz
 obtain⟨y,hy,ha⟩:=df 80 a hd hs
 rw[ha]
 rw[←hy]at e3 e38 e39 e40
 clear ha hy hd hs
 simp only[zn,dD,av,Tryz.f8,Option.getD,aX,a_,cond,Nat.beq,List.range,List.range.loop,List.map]
 rw[e3,e38,e39,e40]
 have bz:¬((n:Int)<(n:Int)):=by omega
 go_wp2_with fail
 all_goals first|exact rfl|exact hQ _ rfl rfl
theorem abv{w:World}{a:Act}(hd:a.defers=[])(hs:a.tmps.size=80){Q:Exit->Act->World->Prop}(hQ:∀a',a'.defers=[]->a'.tmps[2]? =some (.bool true)->Q .ret a' w):(ah 8 dD).wp Tryz.prog Q a w:=by
 obtain⟨y,hy,ha⟩:=df 80 a hd hs
 rw[ha]
 clear ha hy hd hs
 simp only[dD,av,Tryz.f8,Option.getD,ah,cO,Option.map,List.range,List.range.loop,List.map]
 go_wp2_with fail
 all_goals first|exact rfl|exact hQ _ rfl rfl
theorem aaL(L:List St)(W:List eP){wS:World}{g cap gw rq b0 b1:Nat}(hL:L.length<=1000000)(hl:L.length=W.length)(hP:∀(i:Nat) (s:St) (t:eP),L[i]? =some s->W[i]? =some t->(t.cls≠4∨t.text.size≠0)->wrap64 s.line=t.line∧wrap64 s.aM=t.aM)
 (eO:wS.ownsRow b0 35 9 (.slice (some ⟨g,0,none⟩) L.length cap) L.length (flat cQ L))(yW:wS.ownsRow b1 29 5 (.slice (some ⟨gw,0,none⟩) W.length rq) W.length (flat cw W))(Q:Exit->Act->World->Prop)
 (hQ:∀a w,a.defers=[]->a.tmps.size=80->Below wS.heap.size wS w->Q .normal a w):
 ∀(d i:Nat) (a:Act) (w:World),i+d=L.length->SPs (.slice (some ⟨gw,0,none⟩) L.length rq) (.slice (some ⟨g,0,none⟩) L.length cap) (.int .i64 L.length) (.int .i64 i) a->Below wS.heap.size wS w->
  Code.rounds Tryz.prog zn (Exit.inBlock 0 Q) (d+1) a w
 |0,i,a,w,hi,hz,hB=>by
  have hi:i=L.length:=by omega
  subst hi
  rw[rounds_succ]
  exact aca hz (fun a' h1 h2=>hQ a' w h1 h2 hB)
 |d+1,i,a,w,hi,hz,hB=>by
  have bz:i<L.length:=by omega
  obtain⟨s,hs⟩:∃s,L[i]? =some s:=⟨L[i],List.getElem?_eq_getElem bz⟩
  obtain⟨t,ht⟩:∃t,W[i]? =some t:=⟨W[i]'(by rw[←hl];exact bz),List.getElem?_eq_getElem _⟩
  rw[rounds_succ]
  refine aa6 bz hL (ae5 eO hB hs) (ae7 yW hB ht) (hP i s t hs ht) hz (fun a' w' z' b'=> ?_)
  show Code.rounds Tryz.prog zn (Exit.inBlock 0 Q) (d+1) a' w'
  exact aaL L W hL hl hP eO yW Q hQ d (i+1) a' w' (by omega) z' (hB.trans (fJ b' hB.size))
theorem abN{w:World}{s:U}(h:1000<s.size):Calls Tryz.prog 8 #[.string s] w fun en w'=>en= .returned (.bool true)∧Below w.heap.size w w':=by
 have h1:(1000:Int)<(s.size:Int):=by omega
 go_enter Tryz.func8,Tryz.ntmps8
 go_wp2_with fail
 all_goals exact⟨rfl,_,bK (k:=2) (by kernel_rfl) rfl,rfl,Below.refl _ _⟩
theorem abS{w:World}{ea:Addr}{O:U}(hG:oU w ea)(hs:O.size<=1000)(h:(rC O).ai≠0∨plF O=true):Calls Tryz.prog 8 #[.string O] w fun en w'=>en= .returned (.bool true)∧Below w.heap.size w w':=by
 have h1:¬(1000:Int)<(O.size:Int):=by omega
 have h2:¬(2147483647:Int)<(O.size:Int):=by omega
 have hL:=Uv (O:=O) hG (by omega)
 have hP:=fun w'=>dS w' O (by omega)
 generalize(rC O).out=W at*
 generalize(rC O).rem=R at*
 generalize(rC O).ai=st at*
 generalize plF O=b at*
 by_cases h0:st=0
 ·subst h0
  have hb:b=true:=h.resolve_left (fun hh=>hh rfl)
  subst hb
  clear h
  go_enter Tryz.func8,Tryz.ntmps8
  go_wp2_with (first
   |(go_at_call 20;refine(hP _).mono ?_;rintro en w2 ⟨rfl,rfl⟩)
   |(go_at_call 10;refine hL.mono ?_;rintro en w1 ⟨po,co,pr,cr,rfl,o1,o2,lB⟩))
  all_goals exact⟨rfl,_,bK (k:=2) (by kernel_rfl) rfl,rfl,lB⟩
 ·have h01:((st:Int) != 0)=true:=by simp;omega
  clear h
  go_enter Tryz.func8,Tryz.ntmps8
  go_wp2_with (go_at_call 10;refine hL.mono ?_;rintro en w1 ⟨po,co,pr,cr,rfl,o1,o2,lB⟩)
  all_goals exact⟨rfl,_,bK (k:=2) (by kernel_rfl) rfl,rfl,lB⟩
theorem abj{w:World}{ea:Addr}{O:U}(hG:oU w ea)(hs:O.size<=1000)(h0:(rC O).ai=0)(hp:plF O=false)(hl:(iZ O 0).length=(rC O).out.length)(B C:Code){Q:Exit->Act->World->Prop}
 (hQ:∀g cap gw rq a w',w'.ownsRow w.heap.size 35 9 (.slice (some ⟨g,0,none⟩) (iZ O 0).length cap) (iZ O 0).length (flat cQ (iZ O 0))->w'.ownsRow w.heap.size 29 5 (.slice (some ⟨gw,0,none⟩) (rC O).out.length rq) (rC O).out.length (flat cw (rC O).out)->Below w.heap.size w w'->
   SPs (.slice (some ⟨gw,0,none⟩) (iZ O 0).length rq) (.slice (some ⟨g,0,none⟩) (iZ O 0).length cap) (.int .i64 (iZ O 0).length) (.int .i64 (0:Nat)) a->B.wp Tryz.prog (Exit.then (fun a w=>C.wp Tryz.prog Q a w) Q) a w'):
 (Code.seq (psP 0) (.seq (psP 1) (.seq (psP 2) (.seq (psP 3) (.seq (psP 4) (.seq (psP 5) (.seq (psP 6) (.seq (.seq (bQ (psP 7)) B) C)))))))).wp Tryz.prog Q {tmps:=#[.string O]++Array.replicate 79 undef,defers:=[]} w:=by
 have h1:¬(1000:Int)<(O.size:Int):=by omega
 have h2:¬(2147483647:Int)<(O.size:Int):=by omega
 have hL:=Uv (O:=O) hG (by omega)
 have hP:=fun w'=>dS w' O (by omega)
 have hS:=fun w' (hB:Below w.heap.size w w')=>NP (O:=O) (Bv hG hB) (by omega)
 have dH:=List.length_pos_iff.2 (uJ (O:=O) 0 (by omega)).ne
 rw[h0]at hL
 rw[hp]at hP
 clear h0 hp
 generalize(iZ O 0)=L at*
 generalize(last O 0).ab.length=N at*
 generalize(rC O).out=W at*
 generalize(rC O).rem=R at*
 have hL2:Calls Tryz.prog 10 #[.string O] w fun en w'=>∃gw co pr cr,en= .returned (.tuple #[.slice (some ⟨gw,0,none⟩) L.length co,.slice pr R.length cr,.int .i64 0])∧w'.ownsRow w.heap.size 29 5 (.slice (some ⟨gw,0,none⟩) W.length co) W.length (flat cw W)∧Below w.heap.size w w':=by
  refine hL.mono ?_
  rintro en w1 ⟨po,co,pr,cr,rfl,o1,o2,lB⟩
  obtain⟨gw,c2,e2,_,_⟩:=o1.form (by omega)
  cases e2
  exact⟨gw,co,pr,cr,by rw[hl];rfl,o1,lB⟩
 clear hL
 simp only[psP,bQ,dD,av,Tryz.f8,Option.getD,ah,cO,Option.map,Array.replicate_succ,Array.replicate_zero,List.push_toArray,List.append_toArray,List.nil_append,List.cons_append]
 go_wp2_with (first
  |(go_at_call 13;refine(hS _ lB).mono ?_;rintro en w3 ⟨g,cap,p,c2,rfl,s1,sB⟩)
  |(go_at_call 20;refine(hP _).mono ?_;rintro en w2 ⟨rfl,rfl⟩)
  |(go_at_call 10;refine hL2.mono ?_;rintro en w1 ⟨gw,co,pr,cr,rfl,o1,lB⟩))
 rename_i K hK
 refine Code.wp_mono (fun e a w h=> ?_) (hQ g cap gw co _ w3 (pv s1 lB.size) (iH sB o1) (lB.trans (fJ sB lB.size)) ⟨rfl,rfl,by rw[hl];rfl,by rw[hl];rfl,by rw[hl];rfl,rfl⟩)
 cases e<;>first|exact hK _ _ h|exact h
theorem aak{w:World}{ea:Addr}(O:U)(hG:oU w ea):Calls Tryz.prog 8 #[.string O] w fun en w'=>en= .returned (.bool true)∧Below w.heap.size w w':=by
 by_cases h:1000<O.size
 ·exact abN h
 have hs:O.size<=1000:=by omega
 by_cases h0:(rC O).ai=0
 ·cases hp:plF O with
  |true=>exact abS hG hs (.inr hp)
  |false=>
   have hn:O.size<=2048:=by omega
   obtain⟨t1,t2,t3⟩:=Uc hn (m:=0) (.inl rfl)
   obtain⟨t4,t5⟩:=t2 h0
   have hx:gM O ddB<0:=by
    unfold plF at hp
    simp only[Bool.or_eq_false_iff,decide_eq_false_iff_not]at hp
    have:=hp.2
    omega
   have hD:=ab6 (aaZ hn h0) hx
   refine calls_of_wp Tryz.func8 (c:=dD) (by kernel_rfl) ?_
   have yV:(Tryz.f8).ntmps-(#[.string O]:Array Value).size=79:=by kernel_rfl
   rw[yV,abt]
   refine abj hG hs h0 hp t4 _ _ (fun g cap gw rq a w1 r1 r2 hB z=> ?_)
   refine wp_block (wp_loop_rounds ((iZ O 0).length+1) ?_)
   have hlen:=Ft O 0 hn
   refine aaL (iZ O 0) (rC O).out (by omega) t4 (fun i s t h1 h2 h3=> ?_) r1 r2 _ (fun a2 w2 d2 s2 b2=> ?_) _ 0 a w1 (Nat.zero_add _) z (Below.refl _ _)
   ·obtain⟨e1,e2⟩:=(t1.2 i s t h1 h2).2 hD h3
    have hk:=((uJ 0 hn).at i s h1).1
    have k1:=hk.l0;have k2:=hk.l1;have k3:=hk.c0;have k4:=hk.c1
    exact⟨(wrap_small k1 k2).trans e1,(wrap_small k3 k4).trans e2⟩
   ·show(ah 8 dD).wp _ _ a2 w2
    exact abv d2 s2 (fun a3 d0 d4=>⟨d0,_,bK (k:=2) (by kernel_rfl) d4,rfl,hB.trans (fJ b2 hB.size)⟩)
 ·exact abS hG hs (.inl h0)
end
end Sc
end Go.Proofs.YtogkcphobhhbdaaGreatDoor
