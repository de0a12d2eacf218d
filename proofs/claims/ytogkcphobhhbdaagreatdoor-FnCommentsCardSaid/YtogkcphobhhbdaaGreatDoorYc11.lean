/- The scanner of the program told as plain functions, part 11: texts joined and shortened by a program (wip/tools/mini.py). -/
import Derived.Test.YtogkcphobhhbdaaGreatDoorYc10
import Derived.Shelf.Strings.Search1
import Derived.Shelf.Strings.Prefix
import Derived.Lib.OthersKept
import Derived.Lib.DecodeN
import Derived.Laws.BitsLemmas
import Derived.Lib.RuneBytes
set_option linter.unusedVariables false
set_option linter.unusedSimpArgs false
set_option maxHeartbeats 32000000
namespace Go.Proofs.YtogkcphobhhbdaaGreatDoor
open Go Go.RowKit Go.Lib
namespace Sc
open Ev
set_option maxRecDepth 100000
noncomputable section
structure SB(vt vo vr vn vi:Value)(a:Act):Prop where
 defers:a.defers=[]
 size:a.tmps.size=74
 s8:a.tmps[8]? =some vt
 s11:a.tmps[11]? =some vo
 s53:a.tmps[53]? =some vr
 s54:a.tmps[54]? =some vn
 s55:a.tmps[55]? =some vi
theorem SB.lit{vt vo vr vn vi:Value}{a:Act}(h:SB vt vo vr vn vi a):∃x:Nat->Value,a={tmps:=#[x 0,x 1,x 2,x 3,x 4,x 5,x 6,x 7,vt,x 9,x 10,vo,x 12,x 13,x 14,x 15,x 16,x 17,x 18,x 19,x 20,x 21,x 22,x 23,x 24,x 25,x 26,x 27,x 28,x 29,x 30,x 31,x 32,x 33,x 34,x 35,x 36,x 37,x 38,x 39,x 40,x 41,x 42,x 43,x 44,x 45,x 46,x 47,x 48,x 49,x 50,x 51,x 52,vr,vn,vi,x 56,x 57,x 58,x 59,x 60,x 61,x 62,x 63,x 64,x 65,x 66,x 67,x 68,x 69,x 70,x 71,x 72,x 73],defers:=[]}:=by
 refine⟨fun i=>a.tmps.getD i undef,?_⟩
 obtain⟨t,d⟩:=a
 obtain⟨h1,h2,k8,W2,k53,k54,k55⟩:=h
 simp only at h1 h2 k8 W2 k53 k54 k55
 subst h1
 have e8:t.getD 8 undef=vt:=by rw[Array.getD_eq_getD_getElem?,k8];rfl
 have e11:t.getD 11 undef=vo:=by rw[Array.getD_eq_getD_getElem?,W2];rfl
 have e53:t.getD 53 undef=vr:=by rw[Array.getD_eq_getD_getElem?,k53];rfl
 have e54:t.getD 54 undef=vn:=by rw[Array.getD_eq_getD_getElem?,k54];rfl
 have e55:t.getD 55 undef=vi:=by rw[Array.getD_eq_getD_getElem?,k55];rfl
 have ht:=gx 74 t h2
 rw[←e8,←e11,←e53,←e54,←e55]
 exact congrArg (fun t=>({tmps:=t,defers:=[]}:Act)) ht
abbrev rm:Code:=a_ (aX gL 2)
def Ja(n:e_):List Value:=[.int .u64 n.line,.int .u64 n.aM,.string n.msg]
def fI(n:e_):List Value:=[.int .i64 (wrap64 n.line),.int .i64 (wrap64 n.aM),.string n.msg]
theorem ps:∀L:List e_,cZ L=flat Ja L
 |[]=>rfl
 |n::r=>by simp[cZ,flat,Ja,ps r]
theorem NL:(Tryz.prog.info? 51).map (fun i=>(i.zero,i.size,i.bytes))=some (some (.agg #[.int .i64 0,.int .i64 0,.string ⟨#[]⟩]),3,32):=by kernel_rfl
theorem abJ{w:World}{o1:Obj}{base n:Nat}{v:Value}{xs:List Value}{st:e_}(bo:w.ownsRow base 51 3 v n xs)(cN:base<=w.heap.size)(hn:n<=60000000)
 {ops:Array Oper}{rest:List Oper}{o:Oper}{a:Act}{Q:Exit->Act->World->Prop}(DR:o.guard=none)(s x:Operand)
 (ho:o.op= .call {callee:= .builtin .append,args:=#[s,x],argTypes:=#[31,31]})(hs:a.eval s=v)(hx:a.eval x= .slice (some ⟨w.heap.size+1,0,none⟩) 1 1)
 (h:∀g cap w',w'.ownsRow base 51 3 (.slice (some ⟨g,0,none⟩) (n+1) cap) (n+1) (xs++fI st)->((w.alloc o1).alloc (.cells (fI st).toArray 51)).grownBy w' v.ownBlock->wpList Tryz.prog ops Q rest (a.put o.dst (.slice (some ⟨g,0,none⟩) (n+1) cap)) w'):
 wpList Tryz.prog ops Q (o::rest) a ((w.alloc o1).alloc (.cells (fI st).toArray 51)):=by
 obtain⟨i0,FH,Eh,L5,HU⟩:=info_parts NL
 have eJ:((w.alloc o1).alloc (.cells (fI st).toArray 51)).heap.size=w.heap.size+2:=by simp
 have abG:(w.alloc o1).heap.size=w.heap.size+1:=by simp
 have hlen:(fI st).length=3:=rfl
 have hml:n+1<=maxLen:=by simp only[maxLen];omega
 have Cc:∀u∈fI st,u.oneCell'=true:=by simp[fI,Value.oneCell']
 have mS:=World.news_of_block (cs:=(fI st).toArray) (t:=51) (fr:=(0,0)) (heap_alloc_new (w.alloc o1) (.cells (fI st).toArray 51))
 rw[abG]at mS
 exact wpList_append_lies _ DR s x 31 ho base 51 i0 _ 3 32 Tryz.underlying31 FH Eh L5 HU rfl (by omega) v n xs hs (fW (fW bo _) _)
  ⟨w.heap.size+1,0,none⟩ 1 1 (fI st) hx hlen mS Cc
  (by omega) hml (by omega) (by rw[eJ];omega) (w.heap.size+2) eJ (fun g cap w' h1 h2 _ _=>h g cap w' h1 h2)
theorem R1{w:World}{st:e_}{g cap n i base:Nat}{vt vo:Value}{xs:List Value}(hi:i<n)(hn:n<=60000000)(bo:w.ownsRow base 51 3 vo i xs)(cN:base<=w.heap.size)
 (c0:w.cell? ⟨g,i*3,none⟩=some (.int .u64 st.line))(c1:w.cell? ⟨g,i*3+1,none⟩=some (.int .u64 st.aM))(c2:w.cell? ⟨g,i*3+2,none⟩=some (.string st.msg))
 (a:Act)(hz:SB vt vo (.slice (some ⟨g,0,none⟩) n cap) (.int .i64 n) (.int .i64 i) a)(Q:Exit->Act->World->Prop)
 (hQ:∀o1 W1 a' w',SB vt W1 (.slice (some ⟨g,0,none⟩) n cap) (.int .i64 n) (.int .i64 (i+1:Nat)) a'->w'.ownsRow base 51 3 W1 (i+1) (xs++fI st)->((w.alloc o1).alloc (.cells (fI st).toArray 51)).grownBy w' vo.ownBlock->Q .normal a' w'):rm.wp Tryz.prog Q a w:=by
 obtain⟨x,rfl⟩:=hz.lit
 clear hz
 have FH:(0:Int)<=(i:Int):=by omega
 have hi1:(i:Int)<(n:Int):=by omega
 simp only[rm,gL,av,Tryz.f13,Option.getD,aX,a_,cond,Nat.beq]
 go_wp2_with (at_builtin;refine abJ (st:=st) bo cN (by omega) (by rfl) _ _ (by rfl) (by rfl) (by rfl) ?_;intro gg NK w1 l8 fR)
 exact hQ _ _ _ _ ⟨rfl,rfl,rfl,rfl,rfl,rfl,rfl⟩ l8 fR
theorem abK{w:World}{n:Nat}{vt vo vr:Value}(a:Act)(hz:SB vt vo vr (.int .i64 n) (.int .i64 n) a)(Q:Exit->Act->World->Prop)
 (hQ:∀a',SB vt vo vr (.int .i64 n) (.int .i64 n) a'->Q (.exit 2) a' w):rm.wp Tryz.prog Q a w:=by
 obtain⟨x,rfl⟩:=hz.lit
 clear hz
 simp only[rm,gL,av,Tryz.f13,Option.getD,aX,a_,cond,Nat.beq]
 have bz:¬((n:Int)<(n:Int)):=by omega
 go_wp2_with fail
 exact⟨rfl,rfl,rfl,rfl,rfl,rfl,rfl⟩
theorem KP(L:List e_){wS:World}{b0:Nat}{vt vr:Value}(hL:L.length<=60000000)(eO:wS.ownsRow b0 70 3 vr L.length (cZ L))(Q:Exit->Act->World->Prop)
 (hQ:∀vo a w,SB vt vo vr (.int .i64 L.length) (.int .i64 L.length) a->w.ownsRow wS.heap.size 51 3 vo L.length (flat fI L)->Below wS.heap.size wS w->Q .normal a w):
 ∀(d i:Nat) (vo:Value) (a:Act) (w:World),i+d=L.length->SB vt vo vr (.int .i64 L.length) (.int .i64 i) a->w.ownsRow wS.heap.size 51 3 vo i (flat fI (L.take i))->Below wS.heap.size wS w->
  Code.rounds Tryz.prog rm (Exit.inBlock 2 Q) (d+1) a w
 |0,i,vo,a,w,hi,hz,bo,hB=>by
  have hi:i=L.length:=by omega
  subst hi
  rw[rounds_succ]
  refine abK a hz _ (fun a' z'=> ?_)
  show Q .normal a' w
  rw[List.take_length]at bo
  exact hQ vo a' w z' bo hB
 |d+1,i,vo,a,w,hi,hz,bo,hB=>by
  have bz:i<L.length:=by omega
  obtain⟨s,hs⟩:∃s,L[i]? =some s:=⟨L[i],List.getElem?_eq_getElem bz⟩
  obtain⟨g,cap,hv,_,_⟩:=eO.form (by omega)
  have yW:=eO
  rw[hv]at yW hz
  have cell:∀j u,j<3->(Ja s)[j]? =some u->w.cell? ⟨g,i*3+j,none⟩=some u:=fun j u hj hu=>by
   have h1:(cZ L)[i*3+j]? =some u:=by rw[ps];exact(nh (k:=3) (fun _=>rfl) L i j s hs hj).trans hu
   have h2:=i_ yW h1
   rw[World.cell?_of_block (w:=wS) (a:=⟨g,i*3+j,none⟩) (hB.block _ (World.block_lt_of_cell? _ _ h2))]
   exact h2
  have cN:wS.heap.size<=w.heap.size:=hB.size
  rw[rounds_succ]
  refine R1 (st:=s) bz hL bo cN (by have:=cell 0 _ (by decide) rfl;exact this) (cell 1 _ (by decide) rfl) (cell 2 _ (by decide) rfl) a hz _ (fun o1 W1 a' w' z' abI grow=> ?_)
  show Code.rounds Tryz.prog rm (Exit.inBlock 2 Q) (d+1) a' w'
  rw[←hv]at z'
  refine KP L hL eO Q hQ d (i+1) W1 a' w' (by omega) z' ?_ (below_grown hB cN grow (fun k hk=>(dt bo hk).1))
  rw[List.take_add_one,hs]
  simp only[Option.toList,iJ,flat,List.append_nil]
  exact abI
abbrev sP(n:Nat):Code:=bQ (ah n gL)
theorem W3:(Tryz.f13).body=some (.seq (sP 0) (.seq (sP 1) (.seq (sP 2) (.seq (.seq (bQ (sP 3)) (.block 0 (.loop rl))) (ah 4 gL))))):=by kernel_rfl
theorem R3:ah 4 gL= .seq (sP 4) (.seq (.seq (bQ (sP 5)) (.block 2 (.loop rm))) (ah 6 gL)):=by kernel_rfl
def wB(w:World)(O:U):World:=w.drew.alloc (.cells (bytesRow O (grownCap w O.size 0 5)) 5 ((bytesRow O (grownCap w O.size 0 5)).size,(bytesRow O (grownCap w O.size 0 5)).size+1))
theorem R4{w:World}{ea:Addr}{O:U}(hG:oU w ea)(hn:O.size<=2048):Start w (wB w O) w.heap.size (grownCap w O.size 0 5) ea O:=by
 have eJ:(wB w O).heap.size=w.heap.size+1:=by simp[wB]
 refine⟨hG,hn,?_,Nat.le_refl _,by rw[eJ];omega,fun j hj=> ?_⟩
 ·exact Below.alloc (Below.drew (Below.refl _ _)) (Nat.le_refl _) _
 ·have hb:(wB w O).heap[w.heap.size]? =some (.cells (bytesRow O (grownCap w O.size 0 5)) 5 ((bytesRow O (grownCap w O.size 0 5)).size,(bytesRow O (grownCap w O.size 0 5)).size+1)):=heap_alloc_new w.drew _
  rw[pj hb]
  have JW:j<O.data.size:=hj
  rw[bytesRow,Array.getElem?_append_left (by simpa using JW)]
  simp only[Array.getElem?_map,Array.getElem?_eq_getElem JW,Option.map_some]
  show _=some (Value.int .u8 ((O.data[j]!).toNat:Int))
  rw[getElem!_pos O.data j JW]
theorem Jb(w:World)(O:U):(convert 9 40 (.string O)).run Tryz.prog w= .ok (.slice (some ⟨w.heap.size,0,none⟩) O.size (grownCap w O.size 0 5)) (wB w O):=
 run_bytes_of_string w 9 40 5 O Tryz.underlying9 Tryz.underlying40 Tryz.underlying5
theorem R5{w:World}{ea:Addr}{O:U}(hG:oU w ea)(hn:O.size<=2048)(m:Int)(B C:Code)(Q:Exit->Act->World->Prop)
 (hQ:∀g cap ve a w',w'.ownsRow ((wB w O).heap.size+4) 68 9 (.slice (some ⟨g,0,none⟩) (iZ O (IntKind.u64.wrap m)).length cap) (iZ O (IntKind.u64.wrap m)).length (rowOf (iZ O (IntKind.u64.wrap m)))->w'.ownsRow ((wB w O).heap.size+4) 70 3 ve (last O (IntKind.u64.wrap m)).ab.length (cZ (last O (IntKind.u64.wrap m)).ab)->Below w.heap.size w w'->
   SA ve (.slice none 0 0) (.slice (some ⟨g,0,none⟩) (iZ O (IntKind.u64.wrap m)).length cap) (.int .i64 (iZ O (IntKind.u64.wrap m)).length) (.int .i64 (0:Nat)) a->B.wp Tryz.prog (Exit.then (fun a w=>C.wp Tryz.prog Q a w) Q) a w'):
 (Code.seq (sP 0) (.seq (sP 1) (.seq (sP 2) (.seq (.seq (bQ (sP 3)) B) C)))).wp Tryz.prog Q {tmps:=#[.string O,.int .i64 m]++Array.replicate 72 undef,defers:=[]} w:=by
 have hZ:=abE (R4 hG hn) (IntKind.u64.wrap m)
 have hc:=Jb w O
 have hlen:=(uJ (IntKind.u64.wrap m) hn).ne
 simp only[sP,bQ,gL,av,Tryz.f13,Option.getD,ah,cO,Option.map,Array.replicate_succ,Array.replicate_zero,List.push_toArray,List.append_toArray,List.nil_append,List.cons_append]
 go_wp2_with (first|(rw[hc];go_simp)|(go_at_call 30;refine hZ.mono ?_;rintro en w' ⟨v,ve,rfl,h1,h2,h3⟩;obtain⟨g,cap,rfl,_,_⟩:=h1.form (List.length_pos_iff.2 hlen)))
 rename_i K hK
 refine Code.wp_mono (fun e a w h=> ?_) (hQ g cap ve _ w' h1 h2 h3 ⟨rfl,rfl,rfl,rfl,rfl,rfl,rfl⟩)
 cases e<;>first|exact hK _ _ h|exact h
theorem pv{w:World}{b b' n:Nat}{e:TypeId}{sz:Nat}{v:Value}{xs:List Value}(h:w.ownsRow b' e sz v n xs)(hb:b<=b'):w.ownsRow b e sz v n xs:=by
 obtain⟨h1,h2⟩:=h
 refine⟨h1,?_⟩
 rcases h2 with h2|⟨g,cap,cur,hv,hg,r⟩
 ·exact .inl h2
 ·exact .inr ⟨g,cap,cur,hv,by omega,r⟩
theorem fJ{b b':Nat}{w w':World}(h:Below b' w w')(hb:b<=b'):Below b w w':=⟨h.os,h.tape,h.output,h.size,fun k hk=>h.block k (by omega)⟩
theorem abL{w:World}{b0 n:Nat}{ve:Value}{xs:List Value}(h:w.ownsRow b0 70 3 ve n xs):∃b cap,ve= .slice b n cap:=by
 rcases h.2 with⟨rfl,rfl⟩|⟨g,cap,cur,rfl,_⟩
 ·exact⟨_,_,rfl⟩
 ·exact⟨_,_,rfl⟩
theorem NM{w:World}{b0 n:Nat}{ve vo vr vn vi:Value}{xs:List Value}(h:w.ownsRow b0 70 3 ve n xs)(a:Act)(hz:SA ve vo vr vn vi a)(B C:Code)(Q:Exit->Act->World->Prop)
 (hQ:∀a,SB vo (.slice none 0 0) ve (.int .i64 n) (.int .i64 (0:Nat)) a->B.wp Tryz.prog (Exit.then (fun a w=>C.wp Tryz.prog Q a w) Q) a w):
 (Code.seq (sP 4) (.seq (.seq (bQ (sP 5)) B) C)).wp Tryz.prog Q a w:=by
 obtain⟨b,cap,rfl⟩:=abL h
 clear h
 obtain⟨x,rfl⟩:=hz.lit
 clear hz
 simp only[sP,bQ,gL,av,Tryz.f13,Option.getD,ah,cO,Option.map]
 go_wp2_with fail
 rename_i K hK
 refine Code.wp_mono (fun e a w h=> ?_) (hQ _ ⟨rfl,rfl,rfl,rfl,rfl,rfl,rfl⟩)
 cases e<;>first|exact hK _ _ h|exact h
theorem R6{w:World}{vt vo vr vn vi:Value}(a:Act)(hz:SB vt vo vr vn vi a)(Q:Exit->Act->World->Prop)
 (hQ:∀a',a'.defers=[]->a'.tmps[4]? =some vt->a'.tmps[5]? =some vo->Q .ret a' w):(ah 6 gL).wp Tryz.prog Q a w:=by
 obtain⟨x,rfl⟩:=hz.lit
 clear hz
 simp only[gL,av,Tryz.f13,Option.getD,ah,cO,Option.map]
 go_wp2_with fail
 all_goals first|exact hQ _ rfl rfl rfl|exact rfl
theorem abM{a:Act}{w:World}{v ve:Value}(h4:a.tmps[4]? =some v)(h5:a.tmps[5]? =some ve):(results Tryz.f13 a.tmps).run Tryz.prog w= .ok (.tuple #[v,ve]) w:=by
 have e:(Tryz.f13).results=#[.tmp 4,.tmp 5]:=by kernel_rfl
 simp[results,e,h4,h5,go_sem]
theorem Bu{w:World}{ea:Addr}{O:U}(hG:oU w ea)(hn:O.size<=2048)(m:Int):
 Calls Tryz.prog 13 #[.string O,.int .i64 m] w fun en w'=>∃v ve,en= .returned (.tuple #[v,ve])∧
  w'.ownsRow w.heap.size 35 9 v (iZ O (IntKind.u64.wrap m)).length (flat cQ (iZ O (IntKind.u64.wrap m)))∧
  w'.ownsRow w.heap.size 51 3 ve (last O (IntKind.u64.wrap m)).ab.length (flat fI (last O (IntKind.u64.wrap m)).ab)∧Below w.heap.size w w':=by
 refine calls_of_wp Tryz.func13 W3 ?_
 have yV:(Tryz.f13).ntmps-(#[.string O,.int .i64 m]:Array Value).size=72:=by kernel_rfl
 rw[yV]
 refine R5 hG hn m _ _ _ (fun g cap ve a w1 o1 o2 b1 z1=> ?_)
 have hl1:=Ft O (IntKind.u64.wrap m) hn
 have Vh:=WS (IntKind.u64.wrap m) hn
 refine wp_block (wp_loop_rounds ((iZ O (IntKind.u64.wrap m)).length+1) ?_)
 refine KO (iZ O (IntKind.u64.wrap m)) (by omega) o1 _ (fun vo a2 w2 z2 WZ b2=> ?_) _ 0 _ a w1 (Nat.zero_add _) z1 (World.ownsRow_nil _ _ _ _) (Below.refl _ _)
 show(ah 4 gL).wp _ _ a2 w2
 have o2':=iH b2 o2
 rw[R3]
 refine NM o2' a2 z2 _ _ _ (fun a3 z3=> ?_)
 refine wp_block (wp_loop_rounds ((last O (IntKind.u64.wrap m)).ab.length+1) ?_)
 refine KP (last O (IntKind.u64.wrap m)).ab (by omega) o2' _ (fun vn a4 w4 z4 ahW b4=> ?_) _ 0 _ a3 w2 (Nat.zero_add _) z3 (World.ownsRow_nil _ _ _ _) (Below.refl _ _)
 show(ah 6 gL).wp _ _ a4 w4
 have hs1:=b1.size;have FI:=b2.size
 refine R6 a4 z4 _ (fun a5 d0 d4 d5=>⟨d0,_,abM d4 d5,vo,vn,rfl,?_,?_,?_⟩)
 ·exact pv (iH b4 WZ) hs1
 ·exact pv ahW (by omega)
 ·exact b1.trans ((fJ b2 hs1).trans (fJ b4 (by omega)))
def sEq:U:=⟨#[61]⟩
def R7:U:=⟨#[59]⟩
def gX(nm lt op:U):Int×U:=
 if nm.toList=[69,79,70]then(0,⟨#[]⟩)
 else if nm.toList=[110,97,109,101]then(1,lt)
 else if nm.toList=[108,105,116,101,114,97,108]then(2,lt)
 else if nm.toList=[111,112]then(3,op)
 else if nm.toList=[111,112,61]then(3,op++sEq)
 else if nm.toList=[111,112,111,112]then(3,op++op)
 else if nm.toList=[59]then(if lt.toList=[115,101,109,105,99,111,108,111,110]then(4,R7)else(4,⟨#[]⟩))
 else(3,nm)
theorem R8{a:Act}{w:World}{v ve:Value}(h4:a.tmps[2]? =some v)(h5:a.tmps[3]? =some ve):(results Tryz.f14 a.tmps).run Tryz.prog w= .ok (.tuple #[v,ve]) w:=by
 have e:(Tryz.f14).results=#[.tmp 2,.tmp 3]:=by kernel_rfl
 simp[results,e,h4,h5,go_sem]
theorem NN(w:World)(li co kd pr:Int)(bk bd:Bool)(nm lt op:U)(Z4:op.size<=1000):
 Calls Tryz.prog 14 #[.agg #[.int .i64 li,.int .i64 co,.bool bk,.string nm,.string lt,.bool bd,.int .i64 kd,.string op,.int .i64 pr]] w fun e w'=>
  e= .returned (.tuple #[.int .i64 (gX nm lt op).1,.string (gX nm lt op).2])∧Below w.heap.size w w':=by
 have ha1:op.size+1<=9223372036854775807:=by omega
 have ha2:op.size+op.size<=9223372036854775807:=by omega
 have ha3:(op.size:Int)<=8388608:=by omega
 go_enter Tryz.func14,Tryz.ntmps14
 go_wp2_with fail
 all_goals try (go_quiet (fail))
 all_goals (go_wp2_with fail)
 all_goals first|refine⟨rfl,_,R8 rfl rfl,?_,?_⟩|trace_state
 all_goals first
  |exact Below.alloc (Below.refl _ _) (Nat.le_refl _) _
  |exact Below.drew (Below.alloc (Below.refl _ _) (Nat.le_refl _) _)
  |exact(Below.alloc (Below.refl _ _) (Nat.le_refl _) _).trans ⟨rfl,rfl,rfl,Nat.le_refl _,fun _ _=>rfl⟩
  |skip
 all_goals (unfold gX;simp_all [sEq,R7])
structure SE(v5 vr vn vi:Value)(a:Act):Prop where
 defers:a.defers=[]
 size:a.tmps.size=84
 s5:a.tmps[5]? =some v5
 s25:a.tmps[25]? =some vr
 s26:a.tmps[26]? =some vn
 s27:a.tmps[27]? =some vi
theorem SE.lit{v5 vr vn vi:Value}{a:Act}(h:SE v5 vr vn vi a):∃x:Nat->Value,a={tmps:=#[x 0,x 1,x 2,x 3,x 4,v5,x 6,x 7,x 8,x 9,x 10,x 11,x 12,x 13,x 14,x 15,x 16,x 17,x 18,x 19,x 20,x 21,x 22,x 23,x 24,vr,vn,vi,x 28,x 29,x 30,x 31,x 32,x 33,x 34,x 35,x 36,x 37,x 38,x 39,x 40,x 41,x 42,x 43,x 44,x 45,x 46,x 47,x 48,x 49,x 50,x 51,x 52,x 53,x 54,x 55,x 56,x 57,x 58,x 59,x 60,x 61,x 62,x 63,x 64,x 65,x 66,x 67,x 68,x 69,x 70,x 71,x 72,x 73,x 74,x 75,x 76,x 77,x 78,x 79,x 80,x 81,x 82,x 83],defers:=[]}:=by
 refine⟨fun i=>a.tmps.getD i undef,?_⟩
 obtain⟨t,d⟩:=a
 obtain⟨h1,h2,k5,k25,k26,k27⟩:=h
 simp only at h1 h2 k5 k25 k26 k27
 subst h1
 have e5:t.getD 5 undef=v5:=by rw[Array.getD_eq_getD_getElem?,k5];rfl
 have e25:t.getD 25 undef=vr:=by rw[Array.getD_eq_getD_getElem?,k25];rfl
 have e26:t.getD 26 undef=vn:=by rw[Array.getD_eq_getD_getElem?,k26];rfl
 have e27:t.getD 27 undef=vi:=by rw[Array.getD_eq_getD_getElem?,k27];rfl
 have ht:=gx 84 t h2
 rw[←e5,←e25,←e26,←e27]
 exact congrArg (fun t=>({tmps:=t,defers:=[]}:Act)) ht
structure ae4(w:World)(g i:Nat)(li co kd pr:Int)(bk bd:Bool)(nm lt op:U):Prop where
 c0:w.cell? ⟨g,i*9,none⟩=some (.int .i64 li)
 c1:w.cell? ⟨g,i*9+1,none⟩=some (.int .i64 co)
 c2:w.cell? ⟨g,i*9+2,none⟩=some (.bool bk)
 c3:w.cell? ⟨g,i*9+3,none⟩=some (.string nm)
 c4:w.cell? ⟨g,i*9+4,none⟩=some (.string lt)
 c5:w.cell? ⟨g,i*9+5,none⟩=some (.bool bd)
 c6:w.cell? ⟨g,i*9+6,none⟩=some (.int .i64 kd)
 c7:w.cell? ⟨g,i*9+7,none⟩=some (.string op)
 c8:w.cell? ⟨g,i*9+8,none⟩=some (.int .i64 pr)
theorem below_drewN(B:Nat)(w:World)(n:Nat):Below B w (w.drewN n):=⟨rfl,rfl,rfl,Nat.le_refl _,fun _ _=>rfl⟩
theorem yX{w w':World}{cs:Array Value}{ty:TypeId}(h:Below (w.alloc (.cells cs ty)).heap.size (w.alloc (.cells cs ty)) w'){k:Nat}{v:Value}(hk:cs[k]? =some v):w'.cell? ⟨w.heap.size,k,none⟩=some v:=by
 have hb:w'.heap[w.heap.size]? =some (.cells cs ty):=by rw[h.block _ (by simp)];exact heap_alloc_new w _
 rw[pj hb];exact hk
theorem NO{w w':World}{o:Obj}(h:Below (w.alloc o).heap.size (w.alloc o) w'):Below w.heap.size w w':=
 (Below.alloc (Below.refl _ _) (Nat.le_refl _) o).trans (fJ h (by simp))
theorem R9:(aH 1).toList=[69,79,70]:=by kernel_rfl
theorem R_:((List.range 24).all fun k=>decide ((lB (k:Nat)).size<=1000))=true:=by kernel_rfl
theorem W4{s:St}(h:Rk s):(lB s.op).size<=1000:=by
 obtain⟨_,h1,h2⟩:=h
 have:=List.all_eq_true.1 R_ s.op.toNat (List.mem_range.2 (by omega))
 rw[show((s.op.toNat:Nat):Int)=s.op by omega]at this
 exact of_decide_eq_true this
theorem wrap_small{x:Int}(h0:1<=x)(h1:x<=5000):wrap64 x=x:=by unfold wrap64;omega
theorem ae5{wS w:World}{g cap b0 i:Nat}{L:List St}{s:St}(eO:wS.ownsRow b0 35 9 (.slice (some ⟨g,0,none⟩) L.length cap) L.length (flat cQ L))(hB:Below wS.heap.size wS w)(hs:L[i]? =some s):
 ae4 w g i (wrap64 s.line) (wrap64 s.aM) (wrap64 s.kind) s.prec s.blank s.bad (aH s.tok.toNat) s.lit (lB s.op):=by
 have cell:∀j u,j<9->(cQ s)[j]? =some u->w.cell? ⟨g,i*9+j,none⟩=some u:=fun j u hj hu=>by
  have h1:(flat cQ L)[i*9+j]? =some u:=(nh (k:=9) (fun _=>rfl) L i j s hs hj).trans hu
  have h2:=i_ eO h1
  rw[World.cell?_of_block (w:=wS) (a:=⟨g,i*9+j,none⟩) (hB.block _ (World.block_lt_of_cell? _ _ h2))]
  exact h2
 exact⟨by have:=cell 0 _ (by decide) rfl;exact this,cell 1 _ (by decide) rfl,cell 2 _ (by decide) rfl,cell 3 _ (by decide) rfl,cell 4 _ (by decide) rfl,cell 5 _ (by decide) rfl,cell 6 _ (by decide) rfl,cell 7 _ (by decide) rfl,cell 8 _ (by decide) rfl⟩
structure SM(va vb vn vi:Value)(a:Act):Prop where
 defers:a.defers=[]
 size:a.tmps.size=54
 s5:a.tmps[5]? =some va
 s7:a.tmps[7]? =some vb
 s40:a.tmps[40]? =some vn
 s41:a.tmps[41]? =some vi
theorem SM.lit{va vb vn vi:Value}{a:Act}(h:SM va vb vn vi a):∃x:Nat->Value,a={tmps:=#[x 0,x 1,x 2,x 3,x 4,va,x 6,vb,x 8,x 9,x 10,x 11,x 12,x 13,x 14,x 15,x 16,x 17,x 18,x 19,x 20,x 21,x 22,x 23,x 24,x 25,x 26,x 27,x 28,x 29,x 30,x 31,x 32,x 33,x 34,x 35,x 36,x 37,x 38,x 39,vn,vi,x 42,x 43,x 44,x 45,x 46,x 47,x 48,x 49,x 50,x 51,x 52,x 53],defers:=[]}:=by
 refine⟨fun i=>a.tmps.getD i undef,?_⟩
 obtain⟨t,d⟩:=a
 obtain⟨h1,h2,k5,k7,k40,k41⟩:=h
 simp only at h1 h2 k5 k7 k40 k41
 subst h1
 have e5:t.getD 5 undef=va:=by rw[Array.getD_eq_getD_getElem?,k5];rfl
 have e7:t.getD 7 undef=vb:=by rw[Array.getD_eq_getD_getElem?,k7];rfl
 have e40:t.getD 40 undef=vn:=by rw[Array.getD_eq_getD_getElem?,k40];rfl
 have e41:t.getD 41 undef=vi:=by rw[Array.getD_eq_getD_getElem?,k41];rfl
 have ht:=gx 54 t h2
 rw[←e5,←e7,←e40,←e41]
 exact congrArg (fun t=>({tmps:=t,defers:=[]}:Act)) ht
theorem Bv{w w':World}{ea:Addr}(h:oU w ea)(hB:Below w.heap.size w w'):oU w' ea:=by
 have mv:∀{a:Addr} {v:Value},w.cell? a=some v->w'.cell? a=some v:=fun{a v} hc=>by
  rw[World.cell?_of_block (w:=w) (a:=a) (hB.block _ (World.block_lt_of_cell? _ _ hc))];exact hc
 have:=hB.size;have:=h.size
 exact⟨mv h.eof,⟨fun c hc=>mv (h.Pn.1 c hc),fun i hi=>⟨mv (h.Pn.2 i hi).1,mv (h.Pn.2 i hi).2⟩⟩,Go.Proofs.TabIs_below (by kernel_rfl:Tryz.prog.globalNamed "unicode.properties" =some 3) h.props hB,Go.Proofs.RVar_below h.letter hB,Go.Proofs.RVar_below h.digit hB,fun i hi=>mv (h.tix i hi),fun i hi=>mv (h.oix i hi),by omega⟩
structure eP where
 cls:Int
 text:U
 kind:Int
 line:Int
 aM:Int
def cw(t:eP):List Value:=[.int .i64 t.cls,.string t.text,.int .i64 t.kind,.int .i64 t.line,.int .i64 t.aM]
def Aj(s:St)(t:eP):Prop:=gX (aH s.tok.toNat) s.lit (lB s.op)=(t.cls,t.text)∧(t.cls=2->wrap64 s.kind=t.kind∧s.bad=false)
structure ae6(w:World)(g i:Nat)(t:eP):Prop where
 c0:w.cell? ⟨g,i*5,none⟩=some (.int .i64 t.cls)
 c1:w.cell? ⟨g,i*5+1,none⟩=some (.string t.text)
 c2:w.cell? ⟨g,i*5+2,none⟩=some (.int .i64 t.kind)
 c3:w.cell? ⟨g,i*5+3,none⟩=some (.int .i64 t.line)
 c4:w.cell? ⟨g,i*5+4,none⟩=some (.int .i64 t.aM)
theorem ae7{wS w:World}{g cap b0 i:Nat}{W:List eP}{t:eP}(eO:wS.ownsRow b0 29 5 (.slice (some ⟨g,0,none⟩) W.length cap) W.length (flat cw W))(hB:Below wS.heap.size wS w)(hs:W[i]? =some t):
 ae6 w g i t:=by
 have cell:∀j u,j<5->(cw t)[j]? =some u->w.cell? ⟨g,i*5+j,none⟩=some u:=fun j u hj hu=>by
  have h1:(flat cw W)[i*5+j]? =some u:=(nh (k:=5) (fun _=>rfl) W i j t hs hj).trans hu
  have h2:=i_ eO h1
  rw[World.cell?_of_block (w:=wS) (a:=⟨g,i*5+j,none⟩) (hB.block _ (World.block_lt_of_cell? _ _ h2))]
  exact h2
 exact⟨by have:=cell 0 _ (by decide) rfl;exact this,cell 1 _ (by decide) rfl,cell 2 _ (by decide) rfl,cell 3 _ (by decide) rfl,cell 4 _ (by decide) rfl⟩
structure SK(v0 v1 vr vn vi:Value)(a:Act):Prop where
 defers:a.defers=[]
 size:a.tmps.size=61
 s0:a.tmps[0]? =some v0
 s1:a.tmps[1]? =some v1
 s14:a.tmps[14]? =some vr
 s15:a.tmps[15]? =some vn
 s16:a.tmps[16]? =some vi
theorem SK.lit{v0 v1 vr vn vi:Value}{a:Act}(h:SK v0 v1 vr vn vi a):∃x:Nat->Value,a={tmps:=#[v0,v1,x 2,x 3,x 4,x 5,x 6,x 7,x 8,x 9,x 10,x 11,x 12,x 13,vr,vn,vi,x 17,x 18,x 19,x 20,x 21,x 22,x 23,x 24,x 25,x 26,x 27,x 28,x 29,x 30,x 31,x 32,x 33,x 34,x 35,x 36,x 37,x 38,x 39,x 40,x 41,x 42,x 43,x 44,x 45,x 46,x 47,x 48,x 49,x 50,x 51,x 52,x 53,x 54,x 55,x 56,x 57,x 58,x 59,x 60],defers:=[]}:=by
 refine⟨fun i=>a.tmps.getD i undef,?_⟩
 obtain⟨t,d⟩:=a
 obtain⟨h1,h2,k0,k1,KQ,k15,k16⟩:=h
 simp only at h1 h2 k0 k1 KQ k15 k16
 subst h1
 have e0:t.getD 0 undef=v0:=by rw[Array.getD_eq_getD_getElem?,k0];rfl
 have e1:t.getD 1 undef=v1:=by rw[Array.getD_eq_getD_getElem?,k1];rfl
 have e14:t.getD 14 undef=vr:=by rw[Array.getD_eq_getD_getElem?,KQ];rfl
 have e15:t.getD 15 undef=vn:=by rw[Array.getD_eq_getD_getElem?,k15];rfl
 have e16:t.getD 16 undef=vi:=by rw[Array.getD_eq_getD_getElem?,k16];rfl
 have ht:=gx 61 t h2
 rw[←e0,←e1,←e14,←e15,←e16]
 exact congrArg (fun t=>({tmps:=t,defers:=[]}:Act)) ht
abbrev oe:Code:=av Tryz.f21
abbrev rn:Code:=a_ (aX oe 0)
theorem Sa{w:World}{g cap gw rq n i:Nat}{li co kd pr:Int}{bk bd:Bool}{nm lt op:U}{t:eP}{v0:Value}(hn:n<=1000000)(hi:i<n)(hr:ae4 w g i li co kd pr bk bd nm lt op)(hw:ae6 w gw i t)(Z4:op.size<=1000)
 (ht:gX nm lt op=(t.cls,t.text))(hk:t.cls=2->kd=t.kind∧bd=false)
 (a:Act)(hz:SK v0 (.slice (some ⟨gw,0,none⟩) n rq) (.slice (some ⟨g,0,none⟩) n cap) (.int .i64 n) (.int .i64 i) a)(Q:Exit->Act->World->Prop)
 (hQ:∀a' w',SK v0 (.slice (some ⟨gw,0,none⟩) n rq) (.slice (some ⟨g,0,none⟩) n cap) (.int .i64 n) (.int .i64 (i+1:Nat)) a'->Below w.heap.size w w'->Q .normal a' w'):rn.wp Tryz.prog Q a w:=by
 obtain⟨x,rfl⟩:=hz.lit
 obtain⟨c0,c1,c2,c3,c4,c5,c6,c7,c8⟩:=hr
 obtain⟨k0,k1,k2,k3,k4⟩:=hw
 clear hz
 have hg:=World.block_lt_of_cell? w _ c0
 have hgw:=World.block_lt_of_cell? w _ k0
 have FH:(0:Int)<=(i:Int):=by omega
 have hi1:(i:Int)<(n:Int):=by omega
 obtain⟨cls,text,kind,wl,wc⟩:=t
 simp only at ht hk k0 k1 k2 k3 k4
 have hT:∀w,Calls Tryz.prog 14 #[.agg #[.int .i64 li,.int .i64 co,.bool bk,.string nm,.string lt,.bool bd,.int .i64 kd,.string op,.int .i64 pr]] w fun e w'=>
  e= .returned (.tuple #[.int .i64 cls,.string text])∧Below w.heap.size w w':=fun w=>by
  have:=NN w li co kd pr bk bd nm lt op Z4
  rw[ht]at this
  exact this
 simp only[rn,oe,av,Tryz.f21,Option.getD,aX,a_,cond,Nat.beq]
 go_wp2_with (go_at_call 14;refine(hT _).mono ?_;rintro en w' ⟨rfl,hB⟩)
 have d5:=yX hB (k:=5) (v:= .bool bd) rfl
 have d6:=yX hB (k:=6) (v:= .int .i64 kd) rfl
 have oA:=NO hB
 have mv:∀{j:Nat} {u:Value},w.cell? ⟨gw,j,none⟩=some u->w'.cell? ⟨gw,j,none⟩=some u:=fun{j u} hc=>by
  rw[World.cell?_of_block (w:=w) (a:=⟨gw,j,none⟩) (oA.block _ hgw)];exact hc
 have q0:=mv k0
 have q1:=mv k1
 have q2:=mv k2
 clear hB hT c0 c1 c2 c3 c4 c5 c6 c7 c8 k0 k1 k2 k3 k4 mv ht
 rename_i KA hKA KB hKB
 by_cases h2:cls=2
 ·obtain⟨rfl,rfl⟩:=hk h2
  subst h2
  go_quiet (fail)
  simp only[Exit.then]
  refine hKB _ _ ?_
  clear hKB
  go_wp2_with fail
  exact hQ _ _ ⟨rfl,rfl,rfl,rfl,rfl,rfl,rfl⟩ (oA.trans (below_drewN _ _ _))
 ·have h2':(cls==2)=false:=by simpa using h2
  go_quiet (fail)
  simp only[Exit.then]
  refine hKB _ _ ?_
  clear hKB
  go_wp2_with fail
  exact hQ _ _ ⟨rfl,rfl,rfl,rfl,rfl,rfl,rfl⟩ (oA.trans (below_drewN _ _ _))
abbrev aP(n:Nat):Code:=bQ (ah n oe)
theorem W5:(Tryz.f21).body=some (.seq (aP 0) (.seq (aP 1) (.seq (.seq (bQ (aP 2)) (.block 0 (.loop rn))) (ah 3 oe)))):=by kernel_rfl
theorem abP{a:Act}{w:World}{v:Value}(h4:a.tmps[4]? =some v):(results Tryz.f21 a.tmps).run Tryz.prog w= .ok v w:=by
 have e:(Tryz.f21).results=#[.tmp 4]:=by kernel_rfl
 simp[results,e,h4,go_sem]
theorem abQ{w:World}{n:Nat}{v0 v1 vr:Value}(a:Act)(hz:SK v0 v1 vr (.int .i64 n) (.int .i64 n) a)(Q:Exit->Act->World->Prop)
 (hQ:∀a',SK v0 v1 vr (.int .i64 n) (.int .i64 n) a'->Q (.exit 0) a' w):rn.wp Tryz.prog Q a w:=by
 obtain⟨x,rfl⟩:=hz.lit
 clear hz
 simp only[rn,oe,av,Tryz.f21,Option.getD,aX,a_,cond,Nat.beq]
 have bz:¬((n:Int)<(n:Int)):=by omega
 go_wp2_with fail
 exact⟨rfl,rfl,rfl,rfl,rfl,rfl,rfl⟩
def KR(L:List St)(W:List eP):Prop:=L.length=W.length∧∀(i:Nat) (s:St) (t:eP),L[i]? =some s->W[i]? =some t->Aj s t
theorem KS(L:List St)(W:List eP){wS:World}{g cap gw rq b0 b1:Nat}{v0:Value}(hk:∀s∈L,Rk s)(hA:KR L W)(hL:L.length<=1000000)(eO:wS.ownsRow b0 35 9 (.slice (some ⟨g,0,none⟩) L.length cap) L.length (flat cQ L))
 (yW:wS.ownsRow b1 29 5 (.slice (some ⟨gw,0,none⟩) W.length rq) W.length (flat cw W))(Q:Exit->Act->World->Prop)
 (hQ:∀a w,SK v0 (.slice (some ⟨gw,0,none⟩) L.length rq) (.slice (some ⟨g,0,none⟩) L.length cap) (.int .i64 L.length) (.int .i64 L.length) a->Below wS.heap.size wS w->Q .normal a w):
 ∀(d i:Nat) (a:Act) (w:World),i+d=L.length->SK v0 (.slice (some ⟨gw,0,none⟩) L.length rq) (.slice (some ⟨g,0,none⟩) L.length cap) (.int .i64 L.length) (.int .i64 i) a->Below wS.heap.size wS w->
  Code.rounds Tryz.prog rn (Exit.inBlock 0 Q) (d+1) a w
 |0,i,a,w,hi,hz,hB=>by
  have hi:i=L.length:=by omega
  subst hi
  rw[rounds_succ]
  exact abQ a hz _ (fun a' z'=>hQ a' w z' hB)
 |d+1,i,a,w,hi,hz,hB=>by
  have bz:i<L.length:=by omega
  obtain⟨s,hs⟩:∃s,L[i]? =some s:=⟨L[i],List.getElem?_eq_getElem bz⟩
  obtain⟨t,ht⟩:∃t,W[i]? =some t:=⟨W[i]'(by rw[←hA.1];exact bz),List.getElem?_eq_getElem _⟩
  obtain⟨h1,h2⟩:=hA.2 i s t hs ht
  rw[rounds_succ]
  refine Sa hL bz (ae5 eO hB hs) (ae7 yW hB ht) (W4 (hk s (List.mem_of_getElem? hs))) h1 h2 a hz _ (fun a' w' z' b'=> ?_)
  show Code.rounds Tryz.prog rn (Exit.inBlock 0 Q) (d+1) a' w'
  exact KS L W hk hA hL eO yW Q hQ d (i+1) a' w' (by omega) z' (hB.trans (fJ b' hB.size))
theorem Sb{w:World}{g cap gw rq n:Nat}(B C:Code)(Q:Exit->Act->World->Prop)
 (hQ:∀a,SK (.slice (some ⟨g,0,none⟩) n cap) (.slice (some ⟨gw,0,none⟩) n rq) (.slice (some ⟨g,0,none⟩) n cap) (.int .i64 n) (.int .i64 (0:Nat)) a->B.wp Tryz.prog (Exit.then (fun a w=>C.wp Tryz.prog Q a w) Q) a w):
 (Code.seq (aP 0) (.seq (aP 1) (.seq (.seq (bQ (aP 2)) B) C))).wp Tryz.prog Q {tmps:=#[.slice (some ⟨g,0,none⟩) n cap,.slice (some ⟨gw,0,none⟩) n rq]++Array.replicate 59 undef,defers:=[]} w:=by
 simp only[aP,bQ,oe,av,Tryz.f21,Option.getD,ah,cO,Option.map,Array.replicate_succ,Array.replicate_zero,List.push_toArray,List.append_toArray,List.nil_append,List.cons_append]
 go_wp2_with fail
 rename_i K hK
 refine Code.wp_mono (fun e a w h=> ?_) (hQ _ ⟨rfl,rfl,rfl,rfl,rfl,rfl,rfl⟩)
 cases e<;>first|exact hK _ _ h|exact h
theorem W6{w:World}{v0 v1 vr vn vi:Value}(a:Act)(hz:SK v0 v1 vr vn vi a)(Q:Exit->Act->World->Prop)
 (hQ:∀a',a'.defers=[]->a'.tmps[4]? =some (.bool true)->Q .ret a' w):(ah 3 oe).wp Tryz.prog Q a w:=by
 obtain⟨x,rfl⟩:=hz.lit
 clear hz
 simp only[oe,av,Tryz.f21,Option.getD,ah,cO,Option.map]
 go_wp2_with fail
 all_goals first|exact hQ _ rfl rfl|exact rfl
theorem Jc(L:List St)(W:List eP){w:World}{g cap gw rq b0 b1:Nat}(hk:∀s∈L,Rk s)(hA:KR L W)(hL:L.length<=1000000)(eO:w.ownsRow b0 35 9 (.slice (some ⟨g,0,none⟩) L.length cap) L.length (flat cQ L))
 (yW:w.ownsRow b1 29 5 (.slice (some ⟨gw,0,none⟩) W.length rq) W.length (flat cw W)):
 Calls Tryz.prog 21 #[.slice (some ⟨g,0,none⟩) L.length cap,.slice (some ⟨gw,0,none⟩) W.length rq] w fun en w'=>en= .returned (.bool true)∧Below w.heap.size w w':=by
 have el:W.length=L.length:=hA.1.symm
 refine calls_of_wp Tryz.func21 W5 ?_
 have yV:(Tryz.f21).ntmps-(#[.slice (some ⟨g,0,none⟩) L.length cap,.slice (some ⟨gw,0,none⟩) W.length rq]:Array Value).size=59:=by kernel_rfl
 rw[yV,show(Value.slice (some ⟨gw,0,none⟩) W.length rq)=Value.slice (some ⟨gw,0,none⟩) L.length rq by rw[el]]
 refine Sb _ _ _ (fun a z=> ?_)
 refine wp_block (wp_loop_rounds (L.length+1) ?_)
 refine KS L W hk hA hL eO yW _ (fun a2 w2 z2 b2=> ?_) _ 0 a w (Nat.zero_add _) z (Below.refl _ _)
 show(ah 3 oe).wp _ _ a2 w2
 exact W6 a2 z2 _ (fun a3 d0 d4=>⟨d0,_,abP d4,rfl,b2⟩)
theorem jE{w:World}{base n size:Nat}{e:TypeId}{v:Value}{xs:List Value}(h:w.ownsRow base e size v n xs):∃p cap,v= .slice p n cap:=by
 rcases h.2 with⟨h1,h2⟩|⟨g,cap,_,h1,_⟩
 ·exact⟨none,0,by rw[h1,h2]⟩
 ·exact⟨_,cap,h1⟩
theorem NP{w:World}{ea:Addr}{O:U}(hG:oU w ea)(hn:O.size<=2048):
 Calls Tryz.prog 13 #[.string O,.int .i64 0] w fun en w'=>∃g cap p c2,en= .returned (.tuple #[.slice (some ⟨g,0,none⟩) (iZ O 0).length cap,.slice p (last O 0).ab.length c2])∧
  w'.ownsRow w.heap.size 35 9 (.slice (some ⟨g,0,none⟩) (iZ O 0).length cap) (iZ O 0).length (flat cQ (iZ O 0))∧Below w.heap.size w w':=by
 have:=Bu hG hn 0
 rw[show IntKind.u64.wrap 0=0 from by decide]at this
 refine this.mono ?_
 rintro en w' ⟨v,ve,rfl,h1,h2,h3⟩
 obtain⟨g,cap,rfl,_,_⟩:=h1.form (List.length_pos_iff.2 (uJ _ hn).ne)
 obtain⟨p,c2,rfl⟩:=jE h2
 exact⟨g,cap,p,c2,rfl,h1,h3⟩
theorem bK{f:Func}{a:Act}{w:World}{v:Value}{k:Nat}(e:f.results=#[.tmp k])(h4:a.tmps[k]? =some v):(results f a.tmps).run Tryz.prog w= .ok v w:=by
 simp[results,e,h4,go_sem]
def c_(s:U):Bool:=
 if s.toList=[98,114,101,97,107]then true
 else if s.toList=[99,111,110,116,105,110,117,101]then true
 else if s.toList=[102,97,108,108,116,104,114,111,117,103,104]then true
 else if s.toList=[114,101,116,117,114,110]then true
 else if s.toList=[43,43]then true
 else if s.toList=[45,45]then true
 else if s.toList=[41]then true
 else if s.toList=[93]then true
 else if s.toList=[125]then true
 else false
theorem jR(w:World)(s:U):Calls Tryz.prog 33 #[.string s] w fun e w'=>e= .returned (.bool (c_ s))∧w'=w:=by
 go_enter Tryz.func33,Tryz.ntmps33
 go_wp2_with fail
 all_goals (refine⟨rfl,_,bK (k:=2) (by kernel_rfl) rfl,?_,rfl⟩)
 all_goals (unfold c_;simp_all)
def Bw(t:eP):Bool:=if t.cls=1 then true else if t.cls=2 then true else if t.cls=3 then c_ t.text else false
theorem Bx:∀(W:List eP),(flat cw W).length=W.length*5
 |[]=>rfl
 |t::W=>by simp only[flat,List.length_append,Bx W,List.length_cons,cw,List.length_nil];omega
def ahZ:eP:=⟨0,⟨#[]⟩,0,0,0⟩
end
end Sc
end Go.Proofs.YtogkcphobhhbdaaGreatDoor
namespace Go.Proofs
open Go.Shelf
noncomputable section
def Tryz.FJ:Go.Shelf.Ren:=⟨fun|217=>32|266=>51|n=>n,fun|9=>9|5=>5|3=>3|n=>n,fun|n=>n⟩
theorem Tryz.W7:Go.Proofs.Lays.n217 Tryz.prog Tryz.FJ:={
 mixed:=by kernel_rfl
 f217:=Tryz.func32.trans (congrArg some (by kernel_rfl))
 f266:=Tryz.func51.trans (congrArg some (by kernel_rfl))
 t3:=Tryz.underlying3
 a3:=Tryz.isAgg3
 z3:=Tryz.sizeOf3
 v3:=Tryz.zeroValue3
 t5:=Tryz.underlying5
 a5:=Tryz.isAgg5
 z5:=Tryz.sizeOf5
 v5:=Tryz.zeroValue5
 t9:=Tryz.underlying9
 a9:=Tryz.isAgg9
 z9:=Tryz.sizeOf9
 v9:=Tryz.zeroValue9}
open Go.RowKit Go.Lib in
theorem Tryz.stringslite_IndexByte(s:U)(c:Int)(w:World):
 Calls Tryz.prog 32 #[.string s,.int .u8 c] w fun e w'=>e= .returned (.int .i64 (Lib.indexByte s.data.toList c.toNat.toUInt8))∧w'=w:=Any.stringslite_IndexByte Tryz.W7 s c w
def Tryz.Jd:Go.Shelf.Ren:=⟨fun|99=>24|206=>34|n=>n,fun|9=>9|4=>4|3=>3|n=>n,fun|n=>n⟩
theorem Tryz.abR:Go.Proofs.Lays.n99 Tryz.prog Tryz.Jd:={
 mixed:=by kernel_rfl
 f99:=Tryz.func24.trans (congrArg some (by kernel_rfl))
 f206:=Tryz.func34.trans (congrArg some (by kernel_rfl))
 t3:=Tryz.underlying3
 a3:=Tryz.isAgg3
 z3:=Tryz.sizeOf3
 v3:=Tryz.zeroValue3
 t4:=Tryz.underlying4
 a4:=Tryz.isAgg4
 z4:=Tryz.sizeOf4
 v4:=Tryz.zeroValue4
 t9:=Tryz.underlying9
 a9:=Tryz.isAgg9
 z9:=Tryz.sizeOf9
 v9:=Tryz.zeroValue9}
open Go.RowKit Go.Lib in
theorem Tryz.strings_HasPrefix(s p:U)(w:World):
 Calls Tryz.prog 24 #[.string s,.string p] w fun e w'=>e= .returned (.bool (Lib.hasPrefix s.data.toList p.data.toList))∧w'=w:=Any.strings_HasPrefix Tryz.abR s p w
def Tryz.FK:Go.Shelf.Ren:=⟨fun|101=>106|208=>115|206=>34|n=>n,fun|9=>9|4=>4|3=>3|n=>n,fun|n=>n⟩
theorem Tryz.W8:Go.Proofs.Lays.n101 Tryz.prog Tryz.FK:={
 mixed:=by kernel_rfl
 f101:=Tryz.func106.trans (congrArg some (by kernel_rfl))
 f206:=Tryz.func34.trans (congrArg some (by kernel_rfl))
 f208:=Tryz.func115.trans (congrArg some (by kernel_rfl))
 t3:=Tryz.underlying3
 a3:=Tryz.isAgg3
 z3:=Tryz.sizeOf3
 v3:=Tryz.zeroValue3
 t4:=Tryz.underlying4
 a4:=Tryz.isAgg4
 z4:=Tryz.sizeOf4
 v4:=Tryz.zeroValue4
 t9:=Tryz.underlying9
 a9:=Tryz.isAgg9
 z9:=Tryz.sizeOf9
 v9:=Tryz.zeroValue9}
open Go.RowKit Go.Lib in
theorem Tryz.strings_TrimPrefix(s p:U)(w:World):
 Calls Tryz.prog 106 #[.string s,.string p] w fun e w'=>e= .returned (.string ⟨(Lib.trimPrefix s.data.toList p.data.toList).toArray⟩)∧w'=w:=Any.strings_TrimPrefix Tryz.W8 s p w
end
end Go.Proofs
namespace Go.Proofs.YtogkcphobhhbdaaGreatDoor
open Go Go.RowKit Go.Lib
namespace Sc
open Ev
set_option maxRecDepth 100000
noncomputable section
structure ST(v0 vi:Value)(a:Act):Prop where
 defers:a.defers=[]
 size:a.tmps.size=23
 s0:a.tmps[0]? =some v0
 s6:a.tmps[6]? =some vi
theorem ST.lit{v0 vi:Value}{a:Act}(h:ST v0 vi a):∃x:Nat->Value,a={tmps:=#[v0,x 1,x 2,x 3,x 4,x 5,vi,x 7,x 8,x 9,x 10,x 11,x 12,x 13,x 14,x 15,x 16,x 17,x 18,x 19,x 20,x 21,x 22],defers:=[]}:=by
 refine⟨fun i=>a.tmps.getD i undef,?_⟩
 obtain⟨t,d⟩:=a
 obtain⟨h1,h2,k0,k6⟩:=h
 simp only at h1 h2 k0 k6
 subst h1
 have e0:t.getD 0 undef=v0:=by rw[Array.getD_eq_getD_getElem?,k0];rfl
 have e6:t.getD 6 undef=vi:=by rw[Array.getD_eq_getD_getElem?,k6];rfl
 have ht:=gx 23 t h2
 rw[←e0,←e6]
 exact congrArg (fun t=>({tmps:=t,defers:=[]}:Act)) ht
structure Sub(T:U)(k:Nat)(s:U):Prop where
 le:k+s.size<=T.size
 get:∀j,j<s.size->T.get! (k+j)=s.get! j
theorem yY(a b:U):(a++b).data.toList=a.data.toList++b.data.toList:=by
 rw[ByteArray.data_append,Array.toList_append]
theorem fB(a b:U):(a++b).size=a.size+b.size:=ByteArray.size_append
theorem pw(a b:U)(i:Nat)(h:i<a.size):(a++b).get! i=a.get! i:=by
 rw[dM,dM,yY]
 have hl:i<a.data.toList.length:=by rw[bu];exact h
 simp only[List.getD_eq_getElem?_getD]
 rw[List.getElem?_append_left hl]
theorem pZ(a b:U)(i:Nat):(a++b).get! (a.size+i)=b.get! i:=by
 rw[dM,dM,yY]
 have hl:a.data.toList.length=a.size:=bu a
 simp only[List.getD_eq_getElem?_getD]
 rw[List.getElem?_append_right (by omega),hl,Nat.add_sub_cancel_left]
theorem sub_self(a:U):Sub a 0 a:=⟨by omega,fun j _=>by rw[Nat.zero_add]⟩
theorem Sub.left{T a:U}{k:Nat}(h:Sub T k a)(b:U):Sub (T++b) k a:=by
 have hl:=h.le
 exact⟨by rw[fB];omega,fun j hj=>by rw[pw _ _ _ (by omega)];exact h.get j hj⟩
theorem Sub.right{T a:U}{k:Nat}(h:Sub T k a)(b:U):Sub (b++T) (b.size+k) a:=by
 have hl:=h.le
 exact⟨by rw[fB];omega,fun j hj=>by rw[Nat.add_assoc,pZ];exact h.get j hj⟩
theorem Sub.byte{T a:U}{k:Nat}(h:Sub T k a){j:Nat}(hj:j<a.size):T.get! (k+j)=a.get! j:=h.get j hj
theorem Sub.jn{T:U}{k:Nat}{b:UInt8}(h:Sub T k ⟨#[b]⟩)(h1:b.toNat<128)(h2:b.toNat≠0):bA T k b.toNat 1:=by
 have e:T.get! (k+0)=b:=h.get 0 (by show 0<1;decide)
 rw[Nat.add_zero]at e
 have hl:=h.le
 have hs:(⟨#[b]⟩:U).size=1:=rfl
 have:=cM (O:=T) (p:=k) (by omega) (by rw[e];exact h1) (by rw[e];exact h2)
 rw[e]at this
 exact this
def ah0(T:U)(k:Int):eP:=⟨2,T,k,0,0⟩
theorem Sd:(aH 3).toList=[108,105,116,101,114,97,108]:=by kernel_rfl
theorem By:(aH 18).toList=[59]:=by kernel_rfl
theorem Se{s:St}(h:s.tok=1):Aj s ahZ:=by
 refine⟨?_,fun h=>by cases h⟩
 rw[h]
 show gX (aH 1) _ _=(0,⟨#[]⟩)
 unfold gX
 rw[if_pos R9]
theorem FL{s:St}{k:Int}(h:s.tok=3)(hk:s.kind=k)(hb:s.bad=false)(h0:0<=k)(h9:k<=9):Aj s (ah0 s.lit k):=by
 refine⟨?_,fun _=>⟨by rw[hk];show wrap64 k=k;unfold wrap64;omega,hb⟩⟩
 rw[h]
 show gX (aH 3) s.lit (lB s.op)=(2,s.lit)
 unfold gX
 rw[Sd]
 rfl
theorem FM{s:U}{c:UInt8}(h:¬(0:Int)<=Lib.indexByte s.data.toList c){j:Nat}(hj:j<s.size):s.get! j≠c:=by
 have h1:=Lib.indexByte_ge s.data.toList c
 have h2:Lib.indexByte s.data.toList c= -1:=by omega
 have h3:=Lib.indexByte_none h2 j
 intro e
 apply h3
 rw[dM]at e
 have hl:j<s.data.toList.length:=by rw[bu];exact hj
 rw[List.getElem?_eq_getElem hl]
 rw[List.getD_eq_getElem?_getD,List.getElem?_eq_getElem hl]at e
 simpa using e
theorem cX(w:World)(s:U)(c:Int):Calls Tryz.prog 22 #[.string s,.int .u8 c] w fun e w'=>e= .returned (.int .i64 (Lib.indexByte s.data.toList c.toNat.toUInt8))∧w'=w:=by
 go_enter Tryz.func22,Tryz.ntmps22
 go_wp2_with (go_at_call 32;refine(Tryz.stringslite_IndexByte s c _).mono ?_;rintro en w' ⟨rfl,rfl⟩)
 exact⟨rfl,_,bK (k:=4) (by kernel_rfl) rfl,rfl,rfl⟩
structure Frm(B:Nat)(w w':World):Prop where
 below:Below B w w'
 iter:∀(k:Nat) (s:U) (pos:Nat),w.heap[k]? =some (Obj.stringIter s pos)->w'.heap[k]? =some (Obj.stringIter s pos)
theorem Frm.refl(B:Nat)(w:World):Frm B w w:=⟨Below.refl _ _,fun _ _ _ h=>h⟩
theorem Frm.trans{B:Nat}{a b c:World}(h:Frm B a b)(h':Frm B b c):Frm B a c:=⟨h.below.trans h'.below,fun k s pos h0=>h'.iter k s pos (h.iter k s pos h0)⟩
theorem Je{w:World}{k:Nat}{o:Obj}(h:w.heap[k]? =some o):k<w.heap.size:=by
 rcases Nat.lt_or_ge k w.heap.size with h1|h1
 ·exact h1
 ·rw[Array.getElem?_eq_none h1]at h;cases h
theorem oP{B:Nat}{w:World}(hB:B<=w.heap.size)(o:Obj):Frm B w (w.alloc o):=
 ⟨Below.alloc (Below.refl _ _) hB o,fun k s pos h=>by rw[(Below.alloc (Below.refl w.heap.size w) (Nat.le_refl _) o).block k (Je h)];exact h⟩
def bc(l:List Int):List Value:=l.map (fun x=> .int .u8 x)
structure SQ(v0 v1 v2 vo vr vk vi:Value)(a:Act):Prop where
 defers:a.defers=[]
 size:a.tmps.size=95
 s0:a.tmps[0]? =some v0
 s1:a.tmps[1]? =some v1
 s2:a.tmps[2]? =some v2
 s7:a.tmps[7]? =some vo
 s9:a.tmps[9]? =some vr
 s10:a.tmps[10]? =some vk
 s14:a.tmps[14]? =some vi
theorem SQ.lit{v0 v1 v2 vo vr vk vi:Value}{a:Act}(h:SQ v0 v1 v2 vo vr vk vi a):∃x:Nat->Value,a={tmps:=#[v0,v1,v2,x 3,x 4,x 5,x 6,vo,x 8,vr,vk,x 11,x 12,x 13,vi,x 15,x 16,x 17,x 18,x 19,x 20,x 21,x 22,x 23,x 24,x 25,x 26,x 27,x 28,x 29,x 30,x 31,x 32,x 33,x 34,x 35,x 36,x 37,x 38,x 39,x 40,x 41,x 42,x 43,x 44,x 45,x 46,x 47,x 48,x 49,x 50,x 51,x 52,x 53,x 54,x 55,x 56,x 57,x 58,x 59,x 60,x 61,x 62,x 63,x 64,x 65,x 66,x 67,x 68,x 69,x 70,x 71,x 72,x 73,x 74,x 75,x 76,x 77,x 78,x 79,x 80,x 81,x 82,x 83,x 84,x 85,x 86,x 87,x 88,x 89,x 90,x 91,x 92,x 93,x 94],defers:=[]}:=by
 refine⟨fun i=>a.tmps.getD i undef,?_⟩
 obtain⟨t,d⟩:=a
 obtain⟨h1,h2,k0,k1,k2,k7,k9,k10,KQ⟩:=h
 simp only at h1 h2 k0 k1 k2 k7 k9 k10 KQ
 subst h1
 have e0:t.getD 0 undef=v0:=by rw[Array.getD_eq_getD_getElem?,k0];rfl
 have e1:t.getD 1 undef=v1:=by rw[Array.getD_eq_getD_getElem?,k1];rfl
 have e2:t.getD 2 undef=v2:=by rw[Array.getD_eq_getD_getElem?,k2];rfl
 have e7:t.getD 7 undef=vo:=by rw[Array.getD_eq_getD_getElem?,k7];rfl
 have e9:t.getD 9 undef=vr:=by rw[Array.getD_eq_getD_getElem?,k9];rfl
 have Rj:t.getD 10 undef=vk:=by rw[Array.getD_eq_getD_getElem?,k10];rfl
 have e14:t.getD 14 undef=vi:=by rw[Array.getD_eq_getD_getElem?,KQ];rfl
 have ht:=gx 95 t h2
 rw[←e0,←e1,←e2,←e7,←e9,←Rj,←e14]
 exact congrArg (fun t=>({tmps:=t,defers:=[]}:Act)) ht
structure SQ5(v0 v1 v2 vo vi:Value)(a:Act):Prop where
 defers:a.defers=[]
 size:a.tmps.size=95
 s0:a.tmps[0]? =some v0
 s1:a.tmps[1]? =some v1
 s2:a.tmps[2]? =some v2
 s7:a.tmps[7]? =some vo
 s14:a.tmps[14]? =some vi
theorem SQ5.lit{v0 v1 v2 vo vi:Value}{a:Act}(h:SQ5 v0 v1 v2 vo vi a):∃x:Nat->Value,a={tmps:=#[v0,v1,v2,x 3,x 4,x 5,x 6,vo,x 8,x 9,x 10,x 11,x 12,x 13,vi,x 15,x 16,x 17,x 18,x 19,x 20,x 21,x 22,x 23,x 24,x 25,x 26,x 27,x 28,x 29,x 30,x 31,x 32,x 33,x 34,x 35,x 36,x 37,x 38,x 39,x 40,x 41,x 42,x 43,x 44,x 45,x 46,x 47,x 48,x 49,x 50,x 51,x 52,x 53,x 54,x 55,x 56,x 57,x 58,x 59,x 60,x 61,x 62,x 63,x 64,x 65,x 66,x 67,x 68,x 69,x 70,x 71,x 72,x 73,x 74,x 75,x 76,x 77,x 78,x 79,x 80,x 81,x 82,x 83,x 84,x 85,x 86,x 87,x 88,x 89,x 90,x 91,x 92,x 93,x 94],defers:=[]}:=by
 refine⟨fun i=>a.tmps.getD i undef,?_⟩
 obtain⟨t,d⟩:=a
 obtain⟨h1,h2,k0,k1,k2,k7,KQ⟩:=h
 simp only at h1 h2 k0 k1 k2 k7 KQ
 subst h1
 have e0:t.getD 0 undef=v0:=by rw[Array.getD_eq_getD_getElem?,k0];rfl
 have e1:t.getD 1 undef=v1:=by rw[Array.getD_eq_getD_getElem?,k1];rfl
 have e2:t.getD 2 undef=v2:=by rw[Array.getD_eq_getD_getElem?,k2];rfl
 have e7:t.getD 7 undef=vo:=by rw[Array.getD_eq_getD_getElem?,k7];rfl
 have e14:t.getD 14 undef=vi:=by rw[Array.getD_eq_getD_getElem?,KQ];rfl
 have ht:=gx 95 t h2
 rw[←e0,←e1,←e2,←e7,←e14]
 exact congrArg (fun t=>({tmps:=t,defers:=[]}:Act)) ht
def dO(c:Int):Int:=if 48<=c∧c<=57 then c-48 else if 97<=c∧c<=102 then c-87 else if 65<=c∧c<=70 then c-55 else 99
theorem p7{c:Int}(h0:128<=c)(h1:c<=1114111):128<=ay c:=by
 obtain⟨n,rfl⟩:=Int.eq_ofNat_of_zero_le (show 0<=c by omega)
 have hn:n<2^31:=by omega
 have:=(bits_nat .i32 31 (by decide) (fun n h0 h1=>wraps_i32 n h0 h1) 32 n (by decide) hn).2
 have e:ay (n:Int)=((32|||n:Nat):Int):=this
 rw[e]
 have:n<=32|||n:=Nat.right_le_or
 omega
theorem NQ:((List.range 128).all fun n=>eG 16 (n:Nat)==(if dO (n:Nat)=99 then 16 else dO (n:Nat))&&(eG 8 (n:Nat)==(if dO (n:Nat)=99 then 8 else dO (n:Nat))))=true:=by kernel_rfl
theorem Sf{b c:Int}(hb:b=8∨b=16)(h0:0<=c)(h1:c<=1114111):eG b c=if dO c=99 then b else dO c:=by
 by_cases h:c<128
 ·have:=List.all_eq_true.1 NQ c.toNat (List.mem_range.2 (by omega))
  rw[show((c.toNat:Nat):Int)=c by omega]at this
  simp only[Bool.and_eq_true,beq_iff_eq]at this
  rcases hb with rfl|rfl
  ·exact this.2
  ·exact this.1
 ·have hl:=p7 (c:=c) (by omega) h1
  have e1:aE c=false:=by unfold aE;simp;omega
  have e2:dO c=99:=by unfold dO;rw[if_neg (by omega),if_neg (by omega),if_neg (by omega)]
  unfold eG
  rw[if_neg (by simp[e1]),if_neg (by omega),e2,if_pos rfl]
theorem tA(c:Int):(0<=dO c∧dO c<=15∧48<=c∧c<=102)∨dO c=99:=by
 unfold dO
 split
 ·left;omega
 ·split
  ·left;omega
  ·split
   ·left;omega
   ·right;rfl
theorem yZ{b c:Int}(hb:b=8∨b=16)(h0:0<=c)(h1:c<=1114111):(eG b c>=b↔¬dO c<b)∧(dO c<b->eG b c=dO c):=by
 have h:=Sf hb h0 h1
 rcases tA c with⟨a1,a2,a3,a4⟩|a
 ·rw[if_neg (by omega)]at h
  rw[h]
  exact⟨by omega,fun _=>rfl⟩
 ·rw[if_pos a]at h
  rw[h,a]
  exact⟨by omega,fun h=>by omega⟩
theorem px(O:U)(b:Int)(hb:b=8∨b=16)(st:St)(x n:Int)(hn:n<=8):bZ O b (st,x,n)=
 if n>0 then(if st.ch<0 then(st,0,some true)else if eG b st.ch>=b then(error jx st,0,some false)else bZ O b (aa O st,IntKind.u32.wrap (IntKind.u32.wrap (x*b)+eG b st.ch),IntKind.i64.wrap (n-1)))else(st,x,none):=by
 unfold bZ
 rw[ei (I:=uB b) (fun a ha=>an (wM O b a ha) (fun s hs=>by
  cases s with
  |go a'=>exact hs
  |out q=>trivial)) ⟨hb,hn⟩ (.out (mw,0,none))]
 unfold CH
 by_cases h1:n>0
 ·by_cases h2:st.ch<0
  ·simp[af.get,cG,h1,h2]
  ·by_cases h3:eG b st.ch>=b
   ·simp[af.get,cG,h1,h2,h3]
   ·simp[af.get,cG,h1,h2,h3]
 ·simp[af.get,cG,h1]
def bq(b:Int):Nat->Int->List Int->Option (Int×List Int)
 |0,x,cs=>some (x,cs)
 |n+1,x,[]=>none
 |n+1,x,c::cs=>if dO c<b then bq b n (x*b+dO c) cs else none
theorem Sg{b x d:Int}{n:Nat}(hb:0<=b)(hd:d<b)(h:(x+1)*b^(n+1)<=4294967296):(x*b+d+1)*b^n<=4294967296:=by
 have h1:(x*b+d+1)<=(x+1)*b:=by rw[Int.add_mul];omega
 have h2:(x*b+d+1)*b^n<=(x+1)*b*b^n:=Int.mul_le_mul_of_nonneg_right h1 (Int.pow_nonneg hb)
 have h3:(x+1)*b*b^n=(x+1)*b^(n+1):=by rw[Int.mul_assoc,Int.pow_succ,Int.mul_comm b]
 omega
theorem pow_one{b x:Int}{n:Nat}(hb:1<=b)(hx:0<=x)(h:(x+1)*b^n<=4294967296):x<4294967296:=by
 have h1:0<b^n:=Int.pow_pos (by omega)
 have h2:(x+1)*1<=(x+1)*b^n:=Int.mul_le_mul_of_nonneg_left h1 (by omega)
 omega
theorem Bz{x:Int}(h0:0<=x)(h1:x<4294967296):IntKind.u32.wrap x=x:=by rw[IntKind.wrap_u32];omega
theorem tC{O:U}{b:Int}(hb:b=8∨b=16):∀(n:Nat) (cs r:List Int) (x v:Int) (p q:Nat) (st:St),n<=8->bq b n x cs=some (v,r)->0<=x->(x+1)*b^n<=4294967296->Cl O p cs q->iP O q->Std O p st->
 ∃p' aO,bZ O b (st,x,n)=(aO,v,none)∧Std O p' aO∧Cl O p' r q∧jC O st aO∧0<=v∧p'=p+n:=by
 intro n
 induction n with
 |zero=>
  intro cs r x v p q st hn ht hx hp hc hq bn
  simp only[bq,Option.some.injEq,Prod.mk.injEq]at ht
  obtain⟨rfl,rfl⟩:=ht
  rw[px O b hb _ _ _ (by omega),if_neg (by omega)]
  exact⟨p,st,rfl,bn,hc,jC.refl _ _,hx,rfl⟩
 |succ n ih=>
  intro cs r x v p q st hn ht hx hp hc hq bn
  cases cs with
  |nil=>simp[bq]at ht
  |cons c cs=>
   simp only[bq]at ht
   by_cases hd:dO c<b
   ·rw[if_pos hd]at ht
    cases hc with
    |@cons _ w _ _ _ h1 h2=>
     obtain⟨e1,e2⟩:=bn.of h1
     have hw:=h1.w
     have hdi:0<=dO c∧dO c<=15∧48<=c∧c<=102:=by
      rcases tA c with h|h
      ·exact h
      ·omega
     have Cs:w=1:=(h1.byte (by omega)).2
     subst Cs
     have hl:=yZ hb (c:=c) (by omega) (by omega)
     have He:=cv bn (by rw[e2];exact h2.jq hq)
     have jt:=dA bn (by rw[e2];exact h2.jq hq)
     rw[e2]at He
     have cz:(1:Int)<=b:=by omega
     have k1:=Sg (b:=b) (x:=x) (d:=dO c) (n:=n) (by omega) hd hp
     have hxb:0<=x*b:=Int.mul_nonneg hx (by omega)
     have k2:=pow_one (b:=b) (x:=x*b+dO c) (n:=n) cz (by omega) k1
     have w1:IntKind.u32.wrap (IntKind.u32.wrap (x*b)+eG b c)=x*b+dO c:=by
      rw[hl.2 hd,Bz hxb (by omega),Bz (by omega) k2]
     have w2:IntKind.i64.wrap (((n+1:Nat):Int)-1)=(n:Int):=by rw[show((n+1:Nat):Int)-1=(n:Int)by omega];exact aG (by omega) (by omega)
     obtain⟨p',aO,g1,g2,g3,g4,g5,g6⟩:=ih cs r _ v (p+1) q (aa O st) (by omega) ht (by omega) k1 h2 hq He.1
     refine⟨p',aO,?_,g2,g3,jt.trans g4,g5,by omega⟩
     rw[px O b hb _ _ _ (by omega),if_pos (by omega),e1,if_neg (by omega),if_neg (by rw[hl.1];omega),w1,w2]
     exact g1
   ·rw[if_neg hd]at ht;cases ht
theorem tD(b:Int):∀(n:Nat) (cs:List Int) (x y:Int),bq b n x cs=none->bq b n y cs=none
 |0,cs,x,y,h=>by simp[bq]at h
 |n+1,[],x,y,h=>rfl
 |n+1,c::cs,x,y,h=>by
  simp only[bq]at h⊢
  split
  ·rename_i hd
   rw[if_pos hd]at h
   exact tD b n cs _ _ h
  ·rfl
def Jf(O:U)(q:Nat)(b:Int):Prop:=(∃e we,bA O q e we∧¬dO e<b)∨q=O.size
theorem NR{O:U}{b:Int}(hb:b=8∨b=16):∀(n:Nat) (cs:List Int) (x:Int) (p q:Nat) (st:St),n<=8->bq b n x cs=none->Cl O p cs q->Jf O q b->Std O p st->
 (st.ab.length<(bZ O b (st,x,n)).1.ab.length∧(bZ O b (st,x,n)).2.2=some false)∨(q=O.size∧(bZ O b (st,x,n)).2.2=some true∧Std O O.size (bZ O b (st,x,n)).1∧(bZ O b (st,x,n)).1.ab=st.ab):=by
 intro n
 induction n with
 |zero=>intro cs x p q st hn ht;simp[bq]at ht
 |succ n ih=>
  intro cs x p q st hn ht hc he bn
  have key:∀c,st.ch=c->0<=c->c<=1114111->¬dO c<b->st.ab.length<(bZ O b (st,x,(n+1:Nat))).1.ab.length∧(bZ O b (st,x,(n+1:Nat))).2.2=some false:=fun c e1 h0 h1 hd=>by
   have hl:=yZ hb (c:=c) h0 h1
   rw[px O b hb _ _ _ (by omega),if_pos (by omega),e1,if_neg (by omega),if_pos (by rw[hl.1];exact hd)]
   exact⟨by show st.ab.length<(st.ab++[_]).length;simp,rfl⟩
  cases hc with
  |nil=>
   rcases he with⟨e,we,he,dH⟩|rfl
   ·obtain⟨e1,e2⟩:=bn.of he
    have:=he.w
    exact .inl (key e e1 (by omega) (by omega) dH)
   ·have e1:=bn.end.1
    rw[px O b hb _ _ _ (by omega),if_pos (by omega),if_pos (by omega)]
    exact .inr ⟨rfl,rfl,bn,rfl⟩
  |@cons _ w _ c cs h1 h2=>
   obtain⟨e1,e2⟩:=bn.of h1
   have hw:=h1.w
   have hq:iP O q:=by
    rcases he with⟨e,we,he,_⟩|he
    ·exact .inl ⟨_,_,he⟩
    ·exact .inr he
   simp only[bq]at ht
   by_cases hd:dO c<b
   ·rw[if_pos hd]at ht
    have hdi:0<=dO c∧dO c<=15∧48<=c∧c<=102:=by
     rcases tA c with h|h
     ·exact h
     ·omega
    have hl:=yZ hb (c:=c) (by omega) (by omega)
    have He:=cv bn (by rw[e2];exact h2.jq hq)
    rw[e2]at He
    have w2:IntKind.i64.wrap (((n+1:Nat):Int)-1)=(n:Int):=by rw[show((n+1:Nat):Int)-1=(n:Int)by omega];exact aG (by omega) (by omega)
    rw[px O b hb _ _ _ (by omega),if_pos (by omega),e1,if_neg (by omega),if_neg (by rw[hl.1];omega),w2]
    have:=ih cs (IntKind.u32.wrap (IntKind.u32.wrap (x*b)+eG b c)) (p+w) q (aa O st) (by omega) (tD b n cs _ _ ht) h2 he He.1
    rw[He.2]at this
    exact this
   ·exact .inl (key c e1 (by omega) (by omega) hd)
def qG(q c:Int):Bool:=[c==q,c==97,c==98,c==102,c==110,c==114,c==116,c==118,c==92].any id
def uM(c:Int):Bool:=[c==48,c==49,c==50,c==51,c==52,c==53,c==54,c==55].any id
def dY(v:Int):Prop:=v>1114111∨(55296<=v∧v<57344)
instance(v:Int):Decidable (dY v):=by unfold dY;infer_instance
def oK(q:Int):List Int->Option (List Int)
 |[]=>none
 |c::cs=>
  if qG q c=true then some cs
  else if uM c=true then(bq 8 3 0 (c::cs)).bind fun r=>if r.1>255 then none else some r.2
  else if c=120 then(bq 16 2 0 cs).bind fun r=>some r.2
  else if c=117 then(bq 16 4 0 cs).bind fun r=>if dY r.1 then none else some r.2
  else if c=85 then(bq 16 8 0 cs).bind fun r=>if dY r.1 then none else some r.2
  else none
theorem y8{b:Int}(hb:1<=b):∀(n:Nat) (cs r:List Int) (x v:Int),bq b n x cs=some (v,r)->v+1<=(x+1)*b^n
 |0,cs,r,x,v,h=>by
  simp only[bq,Option.some.injEq,Prod.mk.injEq]at h
  rw[←h.1,Int.pow_zero];omega
 |n+1,[],r,x,v,h=>by simp[bq]at h
 |n+1,c::cs,r,x,v,h=>by
  simp only[bq]at h
  split at h
  ·rename_i hd
   have h1:=y8 hb n cs r _ v h
   have h2:(x*b+dO c+1)<=(x+1)*b:=by rw[Int.add_mul];omega
   have h3:(x*b+dO c+1)*b^n<=(x+1)*b*b^n:=Int.mul_le_mul_of_nonneg_right h2 (Int.pow_nonneg (by omega))
   have h4:(x+1)*b*b^n=(x+1)*b^(n+1):=by rw[Int.mul_assoc,Int.pow_succ,Int.mul_comm b]
   omega
  ·cases h
theorem gD(m:U)(st:St):(error m st).ab.length=st.ab.length+1:=by
 show(st.ab++[_]).length=_
 simp
theorem tF{b m v:Int}{st:St}:dG b m (st,v,none)=if(v>m∧b=8)then(false,error CI st)else if(v>m∨(55296<=v∧v<57344))then(false,error jX st)else(true,st):=rfl
theorem FN{O:U}{q:Int}{cs r:List Int}(h:oK q cs=some r){p e:Nat}{st:St}(hc:Cl O p cs e)(he:iP O e)(bn:Std O p st):
 ∃p' aO,bt O q st=(true,aO)∧Std O p' aO∧Cl O p' r e∧jC O st aO:=by
 cases hc with
 |nil=>cases h
 |@cons _ w _ c cs h1 h2=>
  obtain⟨e1,e2⟩:=bn.of h1
  have hw:=h1.w
  have hn:=cv bn (by rw[e2];exact h2.jq he)
  have hs:=dA bn (by rw[e2];exact h2.jq he)
  rw[e2]at hn
  simp only[oK]at h
  unfold bt
  rw[e1]
  by_cases k1:qG q c=true
  ·rw[if_pos k1]at h
   have k1':=k1
   unfold qG at k1'
   rw[if_pos k1']
   cases h
   exact⟨_,_,rfl,hn.1,h2,hs⟩
  rw[if_neg k1]at h
  have k1':¬[c==q,c==97,c==98,c==102,c==110,c==114,c==116,c==118,c==92].any id=true:=k1
  rw[if_neg k1']
  by_cases k2:uM c=true
  ·rw[if_pos k2]at h
   have W9:=k2
   unfold uM at W9
   rw[if_pos W9]
   cases ht:bq 8 3 0 (c::cs)with
   |none=>rw[ht]at h;cases h
   |some vr=>
    obtain⟨v,r'⟩:=vr
    rw[ht]at h
    simp only[Option.bind_some]at h
    by_cases k3:v>255
    ·rw[if_pos k3]at h;cases h
    ·rw[if_neg k3]at h
     cases h
     obtain⟨p',aO,g1,g2,g3,g4,g5,g6⟩:=tC (.inl rfl) 3 _ _ 0 v p e st (by decide) ht (by decide) (by decide) (.cons h1 h2) he bn
     have FO:bZ O 8 (st,0,3)=(aO,v,none):=g1
     rw[FO,tF,if_neg (by omega),if_neg (by omega)]
     exact⟨p',aO,rfl,g2,g3,g4⟩
  rw[if_neg k2]at h
  have W9:¬[c==48,c==49,c==50,c==51,c==52,c==53,c==54,c==55].any id=true:=k2
  rw[if_neg W9]
  by_cases k3:c=120
  ·rw[if_pos k3]at h
   rw[if_pos k3]
   cases ht:bq 16 2 0 cs with
   |none=>rw[ht]at h;cases h
   |some vr=>
    obtain⟨v,r'⟩:=vr
    rw[ht]at h
    simp only[Option.bind_some,Option.some.injEq]at h
    subst h
    have hv:=y8 (b:=16) (by decide) 2 _ _ _ _ ht
    have e3:((0:Int)+1)*16^2=256:=by decide
    obtain⟨p',aO,g1,g2,g3,g4,g5,g6⟩:=tC (.inr rfl) 2 _ _ 0 v _ e _ (by decide) ht (by decide) (by decide) h2 he hn.1
    have FO:bZ O 16 (aa O st,0,2)=(aO,v,none):=g1
    rw[FO,tF,if_neg (by omega),if_neg (by omega)]
    exact⟨p',aO,rfl,g2,g3,hs.trans g4⟩
  rw[if_neg k3]at h
  rw[if_neg k3]
  by_cases k4:c=117
  ·rw[if_pos k4]at h
   rw[if_pos k4]
   cases ht:bq 16 4 0 cs with
   |none=>rw[ht]at h;cases h
   |some vr=>
    obtain⟨v,r'⟩:=vr
    rw[ht]at h
    simp only[Option.bind_some]at h
    by_cases k6:dY v
    ·rw[if_pos k6]at h;cases h
    ·rw[if_neg k6]at h
     cases h
     unfold dY at k6
     obtain⟨p',aO,g1,g2,g3,g4,g5,g6⟩:=tC (.inr rfl) 4 _ _ 0 v _ e _ (by decide) ht (by decide) (by decide) h2 he hn.1
     have FO:bZ O 16 (aa O st,0,4)=(aO,v,none):=g1
     rw[FO,tF,if_neg (by omega),if_neg (by omega)]
     exact⟨p',aO,rfl,g2,g3,hs.trans g4⟩
  rw[if_neg k4]at h
  rw[if_neg k4]
  by_cases k5:c=85
  ·rw[if_pos k5]at h
   rw[if_pos k5]
   cases ht:bq 16 8 0 cs with
   |none=>rw[ht]at h;cases h
   |some vr=>
    obtain⟨v,r'⟩:=vr
    rw[ht]at h
    simp only[Option.bind_some]at h
    by_cases k6:dY v
    ·rw[if_pos k6]at h;cases h
    ·rw[if_neg k6]at h
     cases h
     unfold dY at k6
     obtain⟨p',aO,g1,g2,g3,g4,g5,g6⟩:=tC (.inr rfl) 8 _ _ 0 v _ e _ (by decide) ht (by decide) (by decide) h2 he hn.1
     have FO:bZ O 16 (aa O st,0,8)=(aO,v,none):=g1
     rw[FO,tF,if_neg (by omega),if_neg (by omega)]
     exact⟨p',aO,rfl,g2,g3,hs.trans g4⟩
  rw[if_neg k5]at h
  cases h
def BA(O:U)(st:St)(e:Nat)(r:Bool×St):Prop:=st.ab.length<r.2.ab.length∨(e=O.size∧r.1=true∧Std O O.size r.2∧r.2.ab=st.ab)
theorem p8{O:U}{b m:Int}{n:Nat}{cs:List Int}(hb:b=8∨b=16)(hn:n<=8)(hp:((0:Int)+1)*b^n<=4294967296){p e:Nat}{st:St}(hc:Cl O p cs e)(he:Jf O e 16)(bn:Std O p st)
 (h:∀v r,bq b n 0 cs=some (v,r)->v>m∨(55296<=v∧v<57344)):BA O st e (dG b m (bZ O b (st,0,(n:Int)))):=by
 cases ht:bq b n 0 cs with
 |none=>
  rcases NR hb n cs 0 p e st hn ht hc (Or.imp (fun⟨x,we,h1,h2⟩=>⟨x,we,h1,by omega⟩) (fun h=>h) he) bn with⟨g1,g2⟩|⟨g0,g1,g2,g3⟩
  ·refine .inl ?_
   unfold dG
   rw[g2]
   exact g1
  ·refine .inr ⟨g0,?_⟩
   unfold dG
   rw[g1]
   exact⟨rfl,g2,g3⟩
 |some vr=>
  obtain⟨v,r⟩:=vr
  have hq:iP O e:=by
   rcases he with⟨x,we,he,_⟩|he
   ·exact .inl ⟨_,_,he⟩
   ·exact .inr he
  obtain⟨p',aO,g1,g2,g3,g4,g5,g6⟩:=tC hb n _ _ 0 v p e st hn ht (by decide) hp hc hq bn
  rw[g1,tF]
  have:=h v r ht
  refine .inl ?_
  split
  ·rw[gD,g4.ab];omega
  ·show st.ab.length<(error _ aO).ab.length
   rw[gD,g4.ab];omega
theorem BA.on{O:U}{a b:St}{e:Nat}{r:Bool×St}(h:BA O b e r)(he:b.ab=a.ab):BA O a e r:=by
 unfold BA at h⊢
 rw[he]at h
 exact h
theorem Sh{O:U}{q:Int}{cs:List Int}(h:oK q cs=none)(L3:cs≠[]){p e:Nat}{st:St}(hc:Cl O p cs e)(he:Jf O e 16)(bn:Std O p st):
 BA O st e (bt O q st):=by
 have hq:iP O e:=by
  rcases he with⟨x,we,he,_⟩|he
  ·exact .inl ⟨_,_,he⟩
  ·exact .inr he
 cases hc with
 |nil=>exact absurd rfl L3
 |@cons _ w _ c cs h1 h2=>
  obtain⟨e1,e2⟩:=bn.of h1
  have hw:=h1.w
  have hn:=cv bn (by rw[e2];exact h2.jq hq)
  rw[e2]at hn
  simp only[oK]at h
  unfold bt
  rw[e1]
  by_cases k1:qG q c=true
  ·rw[if_pos k1]at h;cases h
  rw[if_neg k1]at h
  have k1':¬[c==q,c==97,c==98,c==102,c==110,c==114,c==116,c==118,c==92].any id=true:=k1
  rw[if_neg k1']
  by_cases k2:uM c=true
  ·rw[if_pos k2]at h
   have W9:=k2
   unfold uM at W9
   rw[if_pos W9]
   refine p8 (n:=3) (.inl rfl) (by decide) (by decide) (.cons h1 h2) he bn (fun v r ht=> ?_)
   rw[ht]at h
   simp only[Option.bind_some]at h
   by_cases k3:v>255
   ·exact .inl k3
   ·rw[if_neg k3]at h;cases h
  rw[if_neg k2]at h
  have W9:¬[c==48,c==49,c==50,c==51,c==52,c==53,c==54,c==55].any id=true:=k2
  rw[if_neg W9]
  by_cases k3:c=120
  ·rw[if_pos k3]at h
   rw[if_pos k3]
   refine(p8 (n:=2) (.inr rfl) (by decide) (by decide) h2 he hn.1 (fun v r ht=> ?_)).on hn.2
   rw[ht]at h
   cases h
  rw[if_neg k3]at h
  rw[if_neg k3]
  by_cases k4:c=117
  ·rw[if_pos k4]at h
   rw[if_pos k4]
   refine(p8 (n:=4) (.inr rfl) (by decide) (by decide) h2 he hn.1 (fun v r ht=> ?_)).on hn.2
   rw[ht]at h
   simp only[Option.bind_some]at h
   by_cases k6:dY v
   ·exact k6
   ·rw[if_neg k6]at h;cases h
  rw[if_neg k4]at h
  rw[if_neg k4]
  by_cases k5:c=85
  ·rw[if_pos k5]at h
   rw[if_pos k5]
   refine(p8 (n:=8) (.inr rfl) (by decide) (by decide) h2 he hn.1 (fun v r ht=> ?_)).on hn.2
   rw[ht]at h
   simp only[Option.bind_some]at h
   by_cases k6:dY v
   ·exact k6
   ·rw[if_neg k6]at h;cases h
  rw[if_neg k5,if_neg (by omega)]
  refine .inl ?_
  rw[gD];omega
theorem W_{O:U}{q:Int}(hq:0<=q){st:St}(bn:Std O O.size st):bt O q st=(true,st):=by
 have e:=bn.end.1
 unfold bt
 rw[e]
 have h1:((-1:Int)==q)=false:=by simp;omega
 rw[if_neg (by simp[h1]),if_neg (by decide),if_neg (by decide),if_neg (by decide),if_neg (by decide),if_pos (by decide)]
inductive Hi(q:Int):List Int->Nat->Prop
 |nil:Hi q [] 0
 |ch {c:Int} {cs:List Int} {k:Nat}:c≠q->c≠92->c≠10->Hi q cs k->Hi q (c::cs) (k+1)
 |es {cs r:List Int} {k:Nat}:oK q cs=some r->Hi q r k->Hi q (92::cs) (k+1)
theorem ni(O:U)(st:St)(ok:Bool):iV O (st,ok)=
 if st.ch=34 then(aa O st,ok)else if st.ch=92 then iV O ((bt O 34 (aa O st)).2,if(bt O 34 (aa O st)).1=true then ok else false)
 else if st.ch=10 then(error yg st,false)else if st.ch<0 then(bF 0 CL st,false)else iV O (aa O st,ok):=by
 unfold iV
 rw[ei (I:=fun _=>True) (fun a _=>FF (sL O) a) trivial (.out (mw,false))]
 unfold Ix
 by_cases h1:st.ch=34
 ·simp[af.get,cG,h1]
 ·by_cases h2:st.ch=92
  ·cases h3:(bt O 34 (aa O st)).1<;>simp[af.get,cG,h1,h2,h3]
  ·by_cases h4:st.ch=10
   ·simp[af.get,cG,h1,h2,h4]
   ·by_cases h5:st.ch<0
    ·simp[af.get,cG,h1,h2,h4,h5]
    ·simp[af.get,cG,h1,h2,h4,h5]
theorem Xa(O:U)(st:St)(ok:Bool):st.ab.length<=(iV O (st,ok)).1.ab.length:=(ES (sL O) (st,ok)).len
theorem y9{O:U}{cs:List Int}{k:Nat}(h:Hi 34 cs k):∀{p q:Nat} {st:St} (ok:Bool),Cl O p cs q->iP O q->Std O p st->
 ∃aO,iV O (st,ok)=iV O (aO,ok)∧Std O q aO∧jC O st aO:=by
 induction h with
 |nil=>
  intro p q st ok hc hq bn
  cases hc
  exact⟨st,rfl,bn,jC.refl _ _⟩
 |@ch c cs k n1 n2 n3 h ih=>
  intro p q st ok hc hq bn
  cases hc with
  |@cons _ w _ _ _ h1 h2=>
   obtain⟨e1,e2⟩:=bn.of h1
   have hw:=h1.w
   have hn:=cv bn (by rw[e2];exact h2.jq hq)
   have hs:=dA bn (by rw[e2];exact h2.jq hq)
   rw[e2]at hn
   obtain⟨aO,g1,g2,g3⟩:=ih ok h2 hq hn.1
   rw[ni,if_neg (by omega),if_neg (by omega),if_neg (by omega),if_neg (by omega)]
   exact⟨aO,g1,g2,hs.trans g3⟩
 |@es cs r k h1 h ih=>
  intro p q st ok hc hq bn
  cases hc with
  |@cons _ w _ _ _ h3 h2=>
   obtain⟨e1,e2⟩:=bn.of h3
   have hn:=cv bn (by rw[e2];exact h2.jq hq)
   have hs:=dA bn (by rw[e2];exact h2.jq hq)
   rw[e2]at hn
   obtain⟨p',st2,k1,k2,k3,k4⟩:=FN h1 h2 hq hn.1
   obtain⟨aO,g1,g2,g3⟩:=ih ok k3 hq k2
   rw[ni,if_neg (by omega),if_pos e1,k1]
   exact⟨aO,g1,g2,(hs.trans k4).trans g3⟩
theorem NS{O:U}{cs:List Int}{k:Nat}(h:Hi 34 cs k){p q:Nat}{st:St}(ok:Bool)(hc:Cl O p cs q)(hq:bA O q 34 1)(ui:iP O (q+1))(bn:Std O p st):
 ∃aO,iV O (st,ok)=(aO,ok)∧Std O (q+1) aO∧jC O st aO:=by
 obtain⟨s1,g1,g2,g3⟩:=y9 h ok hc (.inl ⟨_,_,hq⟩) bn
 obtain⟨e1,e2⟩:=g2.of hq
 have hn:=cv g2 (by rw[e2];exact ui)
 have hs:=dA g2 (by rw[e2];exact ui)
 rw[e2]at hn
 rw[g1,ni,if_pos e1]
 exact⟨_,rfl,hn.1,g3.trans hs⟩
theorem FP{O:U}{cs:List Int}{k:Nat}(h:Hi 34 cs k){p q:Nat}{st:St}(ok:Bool)(hc:Cl O p cs q)(hq:q=O.size∨bA O q 10 1)(bn:Std O p st):
 st.ab.length<(iV O (st,ok)).1.ab.length:=by
 have ie:iP O q:=by
  rcases hq with hq|hq
  ·exact .inr hq
  ·exact .inl ⟨_,_,hq⟩
 obtain⟨s1,g1,g2,g3⟩:=y9 h ok hc ie bn
 rw[g1,ni]
 rcases hq with hq|hq
 ·subst hq
  have e:=g2.end.1
  rw[if_neg (by omega),if_neg (by omega),if_neg (by omega),if_pos (by omega)]
  show st.ab.length<(s1.ab++[_]).length
  rw[g3.ab];simp
 ·obtain⟨e1,e2⟩:=g2.of hq
  rw[if_neg (by omega),if_neg (by omega),if_pos e1]
  show st.ab.length<(s1.ab++[_]).length
  rw[g3.ab];simp
theorem Jg(O:U)(p:St×Bool×Int):(sM O p).aD (Bj (fun _=>True) (yi O) p):=
 an (yj O p) (fun s hs=>by
  cases s with
  |go a'=>exact⟨trivial,hs.2⟩
  |out q=>trivial)
theorem iK(O:U)(st:St)(n:Int):dc O (st,true,n)=
 if st.ch=39 then(if n=0 then(aa O (error o_ st),false)else if n≠1 then(aa O (bF 0 pa st),false)else(aa O st,true))
 else if st.ch=92 then dc O ((bt O 39 (aa O st)).2,(if(bt O 39 (aa O st)).1=true then true else false),IntKind.i64.wrap (n+1))
 else if st.ch=10 then(error vM st,false)else if st.ch<0 then(bF 0 yh st,false)else dc O (aa O st,true,IntKind.i64.wrap (n+1)):=by
 unfold dc
 rw[ei (I:=fun _=>True) (fun a _=>Jg O a) trivial (.out (mw,false))]
 unfold sM
 by_cases h1:st.ch=39
 ·by_cases h0:n=0
  ·simp[af.get,cG,h1,h0]
  ·by_cases h2:n=1
   ·simp[af.get,cG,h1,h2]
   ·simp[af.get,cG,h1,h0,h2]
 ·by_cases h2:st.ch=92
  ·cases h3:(bt O 39 (aa O st)).1<;>simp[af.get,cG,h1,h2,h3]
  ·by_cases h4:st.ch=10
   ·simp[af.get,cG,h1,h2,h4]
   ·by_cases h5:st.ch<0
    ·simp[af.get,cG,h1,h2,h4,h5]
    ·simp[af.get,cG,h1,h2,h4,h5]
theorem nj{O:U}{cs:List Int}{k:Nat}(h:Hi 39 cs k):∀{p q:Nat} {st:St} (n:Nat),n+k<=1000000->Cl O p cs q->iP O q->Std O p st->
 ∃aO,dc O (st,true,(n:Int))=dc O (aO,true,((n+k:Nat):Int))∧Std O q aO∧jC O st aO:=by
 have Eg:∀n:Nat,n<=1000000->IntKind.i64.wrap ((n:Int)+1)=((n+1:Nat):Int):=fun n hn=>by rw[show(n:Int)+1=((n+1:Nat):Int)by omega];exact aG (by omega) (by omega)
 induction h with
 |nil=>
  intro p q st n hk hc hq bn
  cases hc
  exact⟨st,rfl,bn,jC.refl _ _⟩
 |@ch c cs k n1 n2 n3 h ih=>
  intro p q st n hk hc hq bn
  cases hc with
  |@cons _ w _ _ _ h1 h2=>
   obtain⟨e1,e2⟩:=bn.of h1
   have hw:=h1.w
   have hn:=cv bn (by rw[e2];exact h2.jq hq)
   have hs:=dA bn (by rw[e2];exact h2.jq hq)
   rw[e2]at hn
   obtain⟨aO,g1,g2,g3⟩:=ih (n+1) (by omega) h2 hq hn.1
   rw[iK,if_neg (by omega),if_neg (by omega),if_neg (by omega),if_neg (by omega),Eg n (by omega)]
   exact⟨aO,by rw[g1,show n+1+k=n+(k+1)by omega],g2,hs.trans g3⟩
 |@es cs r k h1 h ih=>
  intro p q st n hk hc hq bn
  cases hc with
  |@cons _ w _ _ _ h3 h2=>
   obtain⟨e1,e2⟩:=bn.of h3
   have hn:=cv bn (by rw[e2];exact h2.jq hq)
   have hs:=dA bn (by rw[e2];exact h2.jq hq)
   rw[e2]at hn
   obtain⟨p',st2,k1,k2,k3,k4⟩:=FN h1 h2 hq hn.1
   obtain⟨aO,g1,g2,g3⟩:=ih (n+1) (by omega) k3 hq k2
   rw[iK,if_neg (by omega),if_pos e1,k1,Eg n (by omega)]
   exact⟨aO,by rw[if_pos rfl,g1,show n+1+k=n+(k+1)by omega],g2,(hs.trans k4).trans g3⟩
theorem Jh{O:U}{cs:List Int}(h:Hi 39 cs 1){p q:Nat}{st:St}(hc:Cl O p cs q)(hq:bA O q 39 1)(ui:iP O (q+1))(bn:Std O p st):
 ∃aO,dc O (st,true,0)=(aO,true)∧Std O (q+1) aO∧jC O st aO:=by
 obtain⟨s1,g1,g2,g3⟩:=nj h 0 (by omega) hc (.inl ⟨_,_,hq⟩) bn
 obtain⟨e1,e2⟩:=g2.of hq
 have hn:=cv g2 (by rw[e2];exact ui)
 have hs:=dA g2 (by rw[e2];exact ui)
 rw[e2]at hn
 have FO:dc O (st,true,0)=dc O (s1,true,1):=g1
 rw[FO,iK,if_pos e1,if_neg (by omega),if_neg (by omega)]
 exact⟨_,rfl,hn.1,g3.trans hs⟩
theorem NT{O:U}{cs:List Int}{k:Nat}(h:Hi 39 cs k)(hk:k≠1)(rV:k<=1000000){p q:Nat}{st:St}(hc:Cl O p cs q)(hq:bA O q 39 1)(bn:Std O p st):
 st.ab.length<(dc O (st,true,0)).1.ab.length:=by
 obtain⟨s1,g1,g2,g3⟩:=nj h 0 (by omega) hc (.inl ⟨_,_,hq⟩) bn
 obtain⟨e1,e2⟩:=g2.of hq
 have FO:dc O (st,true,0)=dc O (s1,true,((0+k:Nat):Int)):=g1
 rw[FO,iK,if_pos e1]
 split
 ·have h1:=(aR O (error o_ s1)).len
  have h2:(error o_ s1).ab.length=s1.ab.length+1:=gD _ _
  rw[g3.ab]at h2
  show st.ab.length<(aa O (error o_ s1)).ab.length
  omega
 ·rw[if_pos (by omega)]
  have h1:=(aR O (bF 0 pa s1)).len
  have h2:(bF 0 pa s1).ab.length=s1.ab.length+1:=by show(s1.ab++[_]).length=_;simp
  rw[g3.ab]at h2
  show st.ab.length<(aa O (bF 0 pa s1)).ab.length
  omega
theorem NU{O:U}{cs:List Int}{k:Nat}(h:Hi 39 cs k)(rV:k<=1000000){p:Nat}{st:St}(hc:Cl O p cs O.size)(bn:Std O p st):
 st.ab.length<(dc O (st,true,0)).1.ab.length:=by
 obtain⟨s1,g1,g2,g3⟩:=nj h 0 (by omega) hc (.inr rfl) bn
 have e:=g2.end.1
 have FO:dc O (st,true,0)=dc O (s1,true,((0+k:Nat):Int)):=g1
 rw[FO,iK,if_neg (by omega),if_neg (by omega),if_neg (by omega),if_pos (by omega)]
 show st.ab.length<(s1.ab++[_]).length
 rw[g3.ab];simp
structure Hj(T:U)(k:Nat)(l:List Int):Prop where
 le:k+l.length<=T.size
 get:∀(j:Nat) (x:Int),l[j]? =some x->((T.get! (k+j)).toNat:Int)=x
theorem Hj.left{T:U}{k:Nat}{a b:List Int}(h:Hj T k (a++b)):Hj T k a:=by
 have:=h.le
 rw[List.length_append]at this
 refine⟨by omega,fun j x hj=>h.get j x ?_⟩
 have bz:j<a.length:=(List.getElem?_eq_some_iff.1 hj).1
 rw[List.getElem?_append_left bz];exact hj
theorem Hj.right{T:U}{k:Nat}{a b:List Int}(h:Hj T k (a++b)):Hj T (k+a.length) b:=by
 have:=h.le
 rw[List.length_append]at this
 refine⟨by omega,fun j x hj=> ?_⟩
 have:=h.get (a.length+j) x (by rw[List.getElem?_append_right (by omega),Nat.add_sub_cancel_left];exact hj)
 rw[Nat.add_assoc];exact this
theorem Hj.jn{T:U}{k:Nat}{x:Int}{l:List Int}(h:Hj T k (x::l))(h0:0<x)(h1:x<128):bA T k x 1:=by
 have e:=h.get 0 x rfl
 rw[Nat.add_zero]at e
 have hl:=h.le
 rw[List.length_cons]at hl
 have:=cM (O:=T) (p:=k) (by omega) (by omega) (by omega)
 rw[e]at this
 exact this
theorem Hj.tail{T:U}{k:Nat}{x:Int}{l:List Int}(h:Hj T k (x::l)):Hj T (k+1) l:=by
 have:Hj T k ([x]++l):=h
 exact this.right
theorem nk(O:U)(st:St):cH O st=if st.ch=42 then(if(aa O st).ch=47 then(true,aa O (aa O st))else cH O (aa O st))else(false,st):=by
 unfold cH
 rw[ei (I:=fun _=>True) (fun a _=>an (AS O a) (fun s hs=>by
  cases s with
  |go a'=>exact⟨trivial,hs⟩
  |out q=>trivial)) trivial (.out (false,mw))]
 unfold nQ
 by_cases h1:st.ch=42
 ·by_cases h2:(aa O st).ch=47<;>simp[af.get,cG,h1,h2]
 ·simp[af.get,cG,h1]
theorem rr(O:U)(st:St):pR O st=if 0<=st.ch then(if(cH O st).1=true then(true,(cH O st).2)else pR O (aa O (cH O st).2))else(false,st):=by
 unfold pR
 rw[ei (I:=fun _=>True) (fun a _=>an (CG O a) (fun s hs=>by
  cases s with
  |go a'=>exact⟨trivial,hs⟩
  |out q=>trivial)) trivial (.out (false,mw))]
 unfold scB
 by_cases h1:0<=st.ch
 ·cases h2:(cH O st).1<;>simp[af.get,cG,h1,h2]
 ·simp[af.get,cG,h1]
def ja:List Int->Option (List Int)
 |[]=>none
 |c::r=>if c=42∧r.head?=some 47 then some r.tail else ja r
theorem Si{O:U}{st:St}(h0:0<=st.ch)(h:st.ch≠42):pR O st=pR O (aa O st):=by
 rw[rr,if_pos h0,nk,if_neg h]
 simp
theorem Sj{O:U}{st:St}(h0:0<=st.ch)(h:st.ch=42)(h2:(aa O st).ch=47):pR O st=(true,aa O (aa O st)):=by
 rw[rr,if_pos h0,nk,if_pos h,if_pos h2]
 simp
theorem KT{O:U}{st:St}(h0:0<=st.ch)(h:st.ch=42)(h2:(aa O st).ch≠47)(h3:0<=(aa O st).ch):pR O st=pR O (aa O st):=by
 rw[rr,if_pos h0,rr O (aa O st),if_pos h3]
 have e:cH O st=cH O (aa O st):=by rw[nk,if_pos h,if_neg h2]
 rw[e]
theorem Xb{O:U}{st:St}(h0:0<=st.ch)(h:st.ch=42)(h2:(aa O st).ch<0):pR O st=pR O (aa O (aa O st)):=by
 have n47:¬(aa O st).ch=47:=by omega
 have n42:¬(aa O st).ch=42:=by omega
 have e:cH O st=(false,aa O st):=by rw[nk,if_pos h,if_neg n47,nk,if_neg n42]
 rw[rr,if_pos h0,e]
 simp
theorem ae8{O:U}{p q:Nat}{cs:List Int}(h:Cl O p cs q):q=O.size->∀{st:St},Std O p st->
 match ja cs with
 |some r=>∃p' aO,pR O st=(true,aO)∧Std O p' aO∧Cl O p' r q∧jC O st aO
 |none=>∃aO,pR O st=(false,aO)∧Std O O.size aO∧jC O st aO:=by
 induction h with
 |@nil p=>
  intro hq st bn
  subst hq
  have e:=bn.end.1
  exact⟨st,by rw[rr,if_neg (by omega)],bn,jC.refl _ _⟩
 |@cons p w q r cs h1 h2 ih=>
  intro hq st bn
  have ih:=@ih hq
  obtain⟨e1,e2⟩:=bn.of h1
  have hw:=h1.w
  have ie:iP O (p+w):=h2.jq (.inr hq)
  have hn:=cv bn (by rw[e2];exact ie)
  have hs:=dA bn (by rw[e2];exact ie)
  rw[e2]at hn
  have h0:0<=st.ch:=by omega
  have on:pR O st=pR O (aa O st)->ja (r::cs)=ja cs->match ja (r::cs)with
   |some r=>∃p' aO,pR O st=(true,aO)∧Std O p' aO∧Cl O p' r q∧jC O st aO
   |none=>∃aO,pR O st=(false,aO)∧Std O O.size aO∧jC O st aO:=fun k1 k2=>by
   have:=ih hn.1
   rw[k2,k1]
   cases hc:ja cs with
   |some x=>
    rw[hc]at this
    obtain⟨p',aO,g1,g2,g3,g4⟩:=this
    exact⟨p',aO,g1,g2,g3,hs.trans g4⟩
   |none=>
    rw[hc]at this
    obtain⟨aO,g1,g2,g3⟩:=this
    exact⟨aO,g1,g2,hs.trans g3⟩
  by_cases ZB:r=42
  ·subst ZB
   cases h2 with
   |nil=>
    have J6:=hn.1
    rw[hq]at J6
    have e:=J6.end
    have hn2:=w9 (O:=O) (p:=p+w) (st:=aa O st) (by rw[hn.1.here,e.2];rfl) (.inr hq)
    have FI:jC O (aa O st) (aa O (aa O st)):=⟨aR _ _,hn2.2⟩
    have e3:(aa O (aa O st)).ch= -1:=by have:=hn2.1;rw[hq]at this;exact this.end.1
    refine⟨aa O (aa O st),?_,by rw[←hq];exact hn2.1,hs.trans FI⟩
    rw[Xb h0 e1 (by rw[e.1];decide),rr,if_neg (by rw[e3];decide)]
   |@cons _ w2 _ r2 cs2 h3 h4=>
    obtain⟨f1,f2⟩:=hn.1.of h3
    have hw2:=h3.w
    by_cases h47:r2=47
    ·subst h47
     have abU:iP O (p+w+w2):=h4.jq (.inr hq)
     have hn2:=cv hn.1 (by rw[f2];exact abU)
     have FI:=dA hn.1 (by rw[f2];exact abU)
     rw[f2]at hn2
     have ec:ja (42::47::cs2)=some cs2:=by simp[ja]
     rw[ec]
     exact⟨_,_,Sj h0 e1 f1,hn2.1,h4,hs.trans FI⟩
    ·exact on (KT h0 e1 (by rw[f1];exact h47) (by omega)) (by rw[ja,if_neg (by simp[h47])])
  ·exact on (Si h0 (by rw[e1];exact ZB)) (by rw[ja,if_neg (fun h=>ZB h.1)])
theorem NV{O:U}{p q:Nat}{cs r:List Int}(h:Cl O p cs q)(hc:ja cs=some r):∃i,p<=i∧i+1<q∧(O.get! i).toNat=42∧(O.get! (i+1)).toNat=47:=by
 induction h with
 |nil=>cases hc
 |@cons p w q c cs h1 h2 ih=>
  have hw:=h1.w
  rw[ja]at hc
  split at hc
  ·rename_i hh
   obtain⟨rfl,hh⟩:=hh
   cases h2 with
   |nil=>cases hh
   |@cons _ w2 _ r2 cs2 h3 h4=>
    simp only[List.head?_cons,Option.some.injEq]at hh
    subst hh
    obtain⟨b1,b2⟩:=h1.byte (by decide)
    obtain⟨b3,b4⟩:=h3.byte (by decide)
    subst b2
    have:=h4.le
    exact⟨p,Nat.le_refl _,by omega,by omega,by omega⟩
  ·obtain⟨i,g1,g2,g3,g4⟩:=ih hc
   exact⟨i,by omega,g2,g3,g4⟩
theorem vY{O:U}{nl:Bool}{s:St}(h:s.au=false):gv O nl s=aK O {s with au:=nl}:=by
 rw[cR]
 have e:({s with au:=false}:St)=s:=by cases s;simp only at h;subst h;rfl
 show gv O nl s=gv O nl {s with au:=false}
 rw[e]
theorem ru{O:U}{nl:Bool}{s:St}(h:s.au=false)(hp:fQ O s)(hs:O.size<=2048):s.ab.length<=(gv O nl s).1.ab.length:=by
 rw[vY h]
 have p0:fQ O {s with au:=nl}:=by
  rcases hp with h1|h1
  ·exact .inl (h1.same rfl rfl rfl)
  ·exact .inr h1
 obtain⟨l,hl⟩:=(jB p0 hs).2.1.ab
 rw[hl,List.length_append]
 show s.ab.length<=s.ab.length+_
 omega
theorem FQ{O:U}{st:St}(h:st.mode=0):aJ O st=gK O st:=by
 unfold aJ
 rw[h,if_neg (by decide),if_pos (.inl (by decide))]
def qs(s x:U):Nat->Nat->Int
 |0,_=> -1
 |n+1,i=>if i+x.size<=s.size then(if(s.extract i (i+x.size)).toList=x.toList then(i:Int)else qs s x n (i+1))else -1
def gM(s x:U):Int:=qs s x (s.size+1) 0
theorem BB{s x:U}:∀(n i:Nat),s.size+1<=i+n->qs s x n i<0->∀j,i<=j->j+x.size<=s.size->(s.extract j (j+x.size)).toList≠x.toList
 |0,i,h1,_,j,h3,h4=>by omega
 |n+1,i,h1,h2,j,h3,h4=>by
  rw[qs,if_pos (by omega)]at h2
  split at h2
  ·omega
  ·rename_i dH
   by_cases hj:j=i
   ·subst hj;exact dH
   ·exact BB n (i+1) (by omega) h2 j (by omega) h4
theorem BC{s x:U}(h:gM s x<0):∀j,j+x.size<=s.size->(s.extract j (j+x.size)).toList≠x.toList:=fun j hj=>BB _ 0 (by omega) h j (Nat.zero_le _) hj
def NW:U:=⟨#[32]⟩
end
end Sc
end Go.Proofs.YtogkcphobhhbdaaGreatDoor
