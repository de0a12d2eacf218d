/- The scanner of the program told as plain functions, part 1: texts joined and shortened by a program (wip/tools/mini.py). -/
import Derived.Test.YtogkcphobhhbdaaGreatDoorYc20
import Derived.WalkKit
import Derived.StillTail
import Derived.KernelRfl
import Derived.Shelf.Abstract
import Derived.Laws.CopyRow
import GoSem.Core.Utf8
import GoSem.Core.View
import Derived.Test.YtogkcphobhhbdaaGreatDoorProg
import Derived.Shelf.Unicode.PredsPay
import Derived.Shelf.Unicode.DecodeAny
import Derived.WalkSpells
import Derived.OneCell
import Derived.Deep.QuietTactic
import Derived.BigQuiet
import Derived.Lib.Hide
import Derived.Handy
import Derived.Laws.CopyOwn
import Derived.Room.AppendOwn
import Derived.Deep.DeepAppendRoom
import Derived.ScopeJumps
import Derived.Shelf.Lays7
import Derived.Shelf.Spec.DecodeRune
import Derived.Shelf.Strings.MapAny
import Derived.Lib.ConvBytes
import Derived.WalkSmall
import Derived.Shelf.LaysM
import Derived.Shelf.Strconv.Itoa4
import Derived.Deep.RegionHeld3
import Derived.Deep.AppendLies
import Derived.Shelf.Strings.Search1
import Derived.Shelf.Strings.Prefix
import Derived.Lib.OthersKept
import Derived.Lib.DecodeN
import Derived.Laws.BitsLemmas
import Derived.Laws.BytesArg
import Derived.Lib.RuneBytes
import Derived.BigRegion
import Derived.Test.YtogkcphobhhbdaaGreatDoorRows
import Derived.PinnedBridge
import Derived.Lib.LaidRTabT
import Derived.Lib.LaidU8T
import Derived.Stop.LaidErr
import Derived.Lay
import Derived.LaidMore
import Derived.ProofKit
import Derived.OpenShut
import Derived.OpenVars
import Derived.SevenTiedAt
import Derived.Stop.Joined
set_option linter.unusedVariables false
set_option linter.unusedSimpArgs false
set_option maxHeartbeats 32000000
namespace Go.Proofs.YtogkcphobhhbdaaGreatDoor
open Go Go.RowKit Go.Lib
namespace Sc
open Ev
set_option maxRecDepth 100000
noncomputable section
def aa6:eP:=⟨4,⟨#[]⟩,0,0,0⟩
def dS(W:List eP)(t:eP):List eP:=if Bw t=true then W++[aa6]++[ahZ]else W++[ahZ]
structure One(O:U)(s:St):Prop where
 iZ:∃s2 s3,iZ O 0=[s,s2,s3]∧s2.tok=18∧s2.lit=Rb∧s3.tok=1
 ab:(last O 0).ab=[]
theorem aaK{s:St}(h:s.tok=18)(h2:s.lit=Rb):Aj s aa6:=by
 refine⟨?_,fun h=>by cases h⟩
 rw[h,h2]
 show gX (aH 18) Rb (lB s.op)=(4,⟨#[]⟩)
 unfold gX
 have e:Rb.toList=[69,79,70]:=by kernel_rfl
 rw[By,e]
 rfl
theorem aav{t:eP}(h:Bw t=true):dS [t] t=[t,aa6,ahZ]:=by
 unfold dS
 rw[if_pos h]
 rfl
theorem One.abt{O:U}{s:St}{t:eP}(h:One O s)(ht:Aj s t)(he:Bw t=true):KR (Sc.iZ O 0) (dS [t] t):=by
 obtain⟨s2,s3,e,h2,h2',h3⟩:=h.iZ
 rw[e,aav he]
 refine⟨rfl,fun i a b ha hb=> ?_⟩
 match i,ha,hb with
 |0,ha,hb=>cases ha;cases hb;exact ht
 |1,ha,hb=>cases ha;cases hb;exact aaK h2 h2'
 |2,ha,hb=>cases ha;cases hb;exact Se h3
theorem aaL{w:World}{p q:Option Addr}{c d:Nat}:Calls Tryz.prog 21 #[.slice p 0 c,.slice q 0 d] w fun en w'=>en= .returned (.bool true)∧Below w.heap.size w w':=by
 refine calls_of_wp Tryz.func21 W5 ?_
 have yV:(Tryz.f21).ntmps-(#[.slice p 0 c,.slice q 0 d]:Array Value).size=59:=by kernel_rfl
 rw[yV]
 have first:∀(B C:Code) (Q:Exit->Act->World->Prop),(∀a,SK (.slice p 0 c) (.slice q 0 d) (.slice p 0 c) (.int .i64 (0:Nat)) (.int .i64 (0:Nat)) a->B.wp Tryz.prog (Exit.then (fun a w=>C.wp Tryz.prog Q a w) Q) a w)->
  (Code.seq (aP 0) (.seq (aP 1) (.seq (.seq (bQ (aP 2)) B) C))).wp Tryz.prog Q {tmps:=#[.slice p 0 c,.slice q 0 d]++Array.replicate 59 undef,defers:=[]} w:=by
  intro B C Q hQ
  simp only[aP,bQ,oe,av,Tryz.f21,Option.getD,ah,cO,Option.map,Array.replicate_succ,Array.replicate_zero,List.push_toArray,List.append_toArray,List.nil_append,List.cons_append]
  go_wp2_with fail
  rename_i K hK
  refine Code.wp_mono (fun e a w h=> ?_) (hQ _ ⟨rfl,rfl,rfl,rfl,rfl,rfl,rfl⟩)
  cases e<;>first|exact hK _ _ h|exact h
 refine first _ _ _ (fun a z=> ?_)
 refine wp_block (wp_loop_rounds (0+1) ?_)
 rw[rounds_succ]
 refine abQ a z _ (fun a2 z2=> ?_)
 show(ah 3 oe).wp _ _ a2 w
 exact W6 a2 z2 _ (fun a3 d0 d4=>⟨d0,_,abP d4,rfl,Below.refl _ _⟩)
theorem aaZ(L:List St)(W:List eP){w:World}{b0 b1 n m:Nat}{p q:Option Addr}{cap rq:Nat}(hk:∀s∈L,Rk s)(hA:KR L W)(hL:L.length<=1000000)(hn:L.length=n)(hm:W.length=m)(eO:w.ownsRow b0 35 9 (.slice p n cap) n (flat cQ L))
 (yW:w.ownsRow b1 29 5 (.slice q m rq) m (flat cw W)):
 Calls Tryz.prog 21 #[.slice p n cap,.slice q m rq] w fun en w'=>en= .returned (.bool true)∧Below w.heap.size w w':=by
 subst hn hm
 by_cases h0:L.length=0
 ·have h1:W.length=0:=by rw[←hA.1];exact h0
  rw[h0,h1]
  exact aaL
 ·obtain⟨g,c1,e1,_,_⟩:=eO.form (by omega)
  obtain⟨gw,c2,e2,_,_⟩:=yW.form (by have:=hA.1;omega)
  rw[e1,e2]
  exact Jc L W hk hA hL (by rw[←e1];exact eO) (by rw[←e2];exact yW)
theorem dD:∀(l:List St) (m:Nat),(flat cQ l).take (m*9)=flat cQ (l.take m)
 |[],m=>by simp[flat]
 |t::l,0=>by simp[flat]
 |t::l,m+1=>by
  rw[List.take_succ_cons]
  simp only[flat]
  have e:(m+1)*9=(cQ t).length+m*9:=by show _=9+_;omega
  rw[e,List.take_append,Nat.add_sub_cancel_left,dD l m]
  rw[List.take_of_length_le (Nat.le_add_right _ _)]
theorem wD.abt{O:U}{L:List St}{W:List eP}(h:wD O L W):KR (L.take W.length) W:=by
 refine⟨by rw[List.length_take];have:=h.1;omega,fun i s t hs ht=> ?_⟩
 rw[List.getElem?_take]at hs
 split at hs
 ·exact(h.2 i s t hs ht).1
 ·cases hs
theorem zn{w:World}{s:U}(h:1000<s.size):Calls Tryz.prog 9 #[.string s] w fun en w'=>en= .returned (.bool true)∧Below w.heap.size w w':=by
 have h1:(1000:Int)<(s.size:Int):=by omega
 go_enter Tryz.func9,Tryz.ntmps9
 go_wp2_with fail
 all_goals exact⟨rfl,_,bK (k:=2) (by kernel_rfl) rfl,rfl,Below.refl _ _⟩
theorem aak{w:World}{ea:Addr}(O:U)(hG:oU w ea):Calls Tryz.prog 9 #[.string O] w fun en w'=>en= .returned (.bool true)∧Below w.heap.size w w':=by
 by_cases h:1000<O.size
 ·exact zn h
 have h1:¬(1000:Int)<(O.size:Int):=by omega
 have h2:¬(2147483647:Int)<(O.size:Int):=by omega
 have hn:O.size<=2048:=by omega
 have hL:=Uv (O:=O) hG (by omega)
 have hS:=fun w' (hB:Below w.heap.size w w')=>NP (O:=O) (Bv hG hB) hn
 obtain⟨t1,t2,t3⟩:=Uc hn (m:=0) (.inl rfl)
 have abj:=t1.abt
 have acg:=t1.1
 have hk:∀s∈iZ O 0,Rk s:=fun s hs=>by
  obtain⟨i,hi⟩:=List.mem_iff_getElem?.1 hs
  exact((uJ 0 hn).at i s hi).1.rk
 have hlen:=Ft O 0 hn
 have hz:(rC O).ai=0->(iZ O 0).length=(rC O).out.length∧(last O 0).ab.length=0:=fun hh=>⟨(t2 hh).1,by rw[(t2 hh).2.1 rfl];rfl⟩
 have ho:(rC O).ai=1->0<(last O 0).ab.length:=fun hh=>List.length_pos_iff.2 (t3 hh rfl)
 clear t1 t2 t3
 generalize(iZ O 0)=L at*
 generalize(last O 0).ab.length=N at*
 generalize(rC O).out=W at*
 generalize(rC O).rem=R at*
 generalize(rC O).ai=st at*
 have hA:∀{w':World} {b0 b1 g cap rq:Nat} {q:Option Addr},w'.ownsRow b0 35 9 (.slice (some ⟨g,0,none⟩) L.length cap) L.length (flat cQ L)->w'.ownsRow b1 29 5 (.slice q W.length rq) W.length (flat cw W)->
  Calls Tryz.prog 21 #[.slice (some ⟨g,0,none⟩) W.length cap,.slice q W.length rq] w' fun en w2=>en= .returned (.bool true)∧Below w'.heap.size w' w2:=fun{w' b0 b1 g cap rq q} r1 r2=>by
  have r3:=Uq r1 acg
  rw[dD]at r3
  exact aaZ (L.take W.length) W (fun s hs=>hk s (List.mem_of_mem_take hs)) abj (by rw[List.length_take];omega) (by rw[List.length_take];omega) rfl r3 r2
 clear hk abj
 by_cases h0:st=0
 ·obtain⟨z1,z2⟩:=hz h0
  subst h0 z2
  rw[z1]at hS
  clear hz ho
  go_enter Tryz.func9,Tryz.ntmps9
  go_wp2_with (first
   |(go_at_call 21;refine(hA (by rw[z1];exact s1) (iH sB o1)).mono ?_;rintro en w3 ⟨rfl,aB⟩)
   |(go_at_call 13;refine(hS _ lB).mono ?_;rintro en w2 ⟨g,cap,p,c2,rfl,s1,sB⟩)
   |(go_at_call 10;refine hL.mono ?_;rintro en w1 ⟨po,co,pr,cr,rfl,o1,o2,lB⟩))
  all_goals exact⟨rfl,_,bK (k:=2) (by kernel_rfl) rfl,rfl,lB.trans (fJ (sB.trans (fJ aB sB.size)) lB.size)⟩
 ·have h01:((st:Int)==0)=false:=by simp;omega
  have hle:(W.length:Int)<=(L.length:Int):=by omega
  by_cases h1:st=1
  ·have hN:=ho h1
   have hN':(0:Int)<(N:Int):=by omega
   have h11:((st:Int)==1)=true:=by simp;omega
   clear hz ho h1
   have zO:∀{w':World} {b0 g cap:Nat},w'.ownsRow b0 35 9 (.slice (some ⟨g,0,none⟩) L.length cap) L.length (flat cQ L)->W.length<=cap∧(W.length:Int)<=(cap:Int)∧(0:Int)<=(W.length:Int):=fun r=>by have:=YS r;omega
   go_enter Tryz.func9,Tryz.ntmps9
   go_wp2_with (first
    |(go_at_call 21;refine(hA s1 (iH sB o1)).mono ?_;rintro en w3 ⟨rfl,aB⟩)
    |(go_at_call 13;refine(hS _ lB).mono ?_;rintro en w2 ⟨g,cap,p,c2,rfl,s1,sB⟩;obtain⟨q1,q2,q3⟩:=zO s1)
    |(go_at_call 10;refine hL.mono ?_;rintro en w1 ⟨po,co,pr,cr,rfl,o1,o2,lB⟩))
   all_goals exact⟨rfl,_,bK (k:=2) (by kernel_rfl) rfl,rfl,lB.trans (fJ (sB.trans (fJ aB sB.size)) lB.size)⟩
  ·have h11:((st:Int)==1)=false:=by simp;omega
   clear hz ho h1
   have zO:∀{w':World} {b0 g cap:Nat},w'.ownsRow b0 35 9 (.slice (some ⟨g,0,none⟩) L.length cap) L.length (flat cQ L)->W.length<=cap∧(W.length:Int)<=(cap:Int)∧(0:Int)<=(W.length:Int):=fun r=>by have:=YS r;omega
   go_enter Tryz.func9,Tryz.ntmps9
   go_wp2_with (first
    |(go_at_call 21;refine(hA s1 (iH sB o1)).mono ?_;rintro en w3 ⟨rfl,aB⟩)
    |(go_at_call 13;refine(hS _ lB).mono ?_;rintro en w2 ⟨g,cap,p,c2,rfl,s1,sB⟩;obtain⟨q1,q2,q3⟩:=zO s1)
    |(go_at_call 10;refine hL.mono ?_;rintro en w1 ⟨po,co,pr,cr,rfl,o1,o2,lB⟩))
   all_goals exact⟨rfl,_,bK (k:=2) (by kernel_rfl) rfl,rfl,lB.trans (fJ (sB.trans (fJ aB sB.size)) lB.size)⟩
end
end Sc
end Go.Proofs.YtogkcphobhhbdaaGreatDoor
