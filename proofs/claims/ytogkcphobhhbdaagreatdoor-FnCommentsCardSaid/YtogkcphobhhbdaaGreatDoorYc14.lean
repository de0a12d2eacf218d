/- The scanner of the program told as plain functions, part 14: texts joined and shortened by a program (wip/tools/mini.py). -/
import Derived.Test.YtogkcphobhhbdaaGreatDoorYc13
set_option linter.unusedVariables false
set_option linter.unusedSimpArgs false
set_option maxHeartbeats 32000000
namespace Go.Proofs.YtogkcphobhhbdaaGreatDoor
open Go Go.RowKit Go.Lib
namespace Sc
open Ev
set_option maxRecDepth 100000
noncomputable section
theorem zj(s:U):(fU s).size<=s.size:=by
 have h1:(fU s).size=(fU s).data.toList.length:=(bu _).symm
 have h2:s.size=s.data.toList.length:=(bu _).symm
 rw[h1,h2]
 unfold fU Lib.trimPrefix
 simp only
 split
 ·rw[List.length_drop];omega
 ·exact Nat.le_refl _
theorem zk(w:World)(s:U)(hs:s.size<=8589934592):Calls Tryz.prog 108 #[.string s] w fun e w'=>e= .returned (.bool (gP s))∧w'=w:=by
 have hR:=fun w=>je w s fL (by omega) (by decide)
 have hE:=tN s
 unfold emp at hE
 by_cases h0:s.size=0
 ·rw[decide_eq_true h0]at hE
  have hf:gP s=cC s fL:=if_neg (fun h=>h.1 h0)
  rw[hf]
  generalize cC s fL=r at hR
  unfold fL at hR
  go_enter Tryz.func108,Tryz.ntmps108
  go_wp2_with (go_at_call 80;refine(hR _).mono ?_;rintro en w1 ⟨rfl,rfl⟩)
  all_goals exact⟨rfl,_,bK (k:=2) (by kernel_rfl) rfl,rfl,rfl⟩
 ·rw[decide_eq_false h0]at hE
  have k0:0<s.size:=by omega
  have k1:(0:Int)<(s.size:Int):=by omega
  have k2:(1:Int)<=(s.size:Int):=by omega
  have Di:=fun w=>je w (s.extract 1 s.size) fL (by rw[ByteArray.size_extract];omega) (by decide)
  by_cases hc:s[0].toNat=43∨s[0].toNat=45
  ·have hf:gP s=cC (s.extract 1 s.size) fL:=if_pos ⟨h0,by rw[dP s 0 k0];exact hc⟩
   rw[hf]
   clear hf hR
   generalize cC (s.extract 1 s.size) fL=r at Di
   unfold fL at Di
   by_cases rO:s[0].toNat=43
   ·have e1:(((s[0].toNat:Nat):Int)==43)=true:=by simp[rO]
    go_enter Tryz.func108,Tryz.ntmps108
    go_wp2_with (go_at_call 80;refine(Di _).mono ?_;rintro en w1 ⟨rfl,rfl⟩)
    all_goals exact⟨rfl,_,bK (k:=2) (by kernel_rfl) rfl,rfl,rfl⟩
   ·have Ay:=hc.resolve_left rO
    have e1:(((s[0].toNat:Nat):Int)==43)=false:=by simp;omega
    have e2:(((s[0].toNat:Nat):Int)==45)=true:=by simp[Ay]
    go_enter Tryz.func108,Tryz.ntmps108
    go_wp2_with (go_at_call 80;refine(Di _).mono ?_;rintro en w1 ⟨rfl,rfl⟩)
    all_goals exact⟨rfl,_,bK (k:=2) (by kernel_rfl) rfl,rfl,rfl⟩
  ·have hf:gP s=cC s fL:=if_neg (fun h=>hc (by rw[←dP s 0 k0];exact h.2))
   rw[hf]
   clear hf Di
   generalize cC s fL=r at hR
   unfold fL at hR
   have e1:(((s[0].toNat:Nat):Int)==43)=false:=by simp;omega
   have e2:(((s[0].toNat:Nat):Int)==45)=false:=by simp;omega
   go_enter Tryz.func108,Tryz.ntmps108
   go_wp2_with (go_at_call 80;refine(hR _).mono ?_;rintro en w1 ⟨rfl,rfl⟩)
   all_goals exact⟨rfl,_,bK (k:=2) (by kernel_rfl) rfl,rfl,rfl⟩
structure SIi(v0 vd vr:Value)(a:Act):Prop where
 defers:a.defers=[]
 size:a.tmps.size=38
 s0:a.tmps[0]? =some v0
 s3:a.tmps[3]? =some vd
 s4:a.tmps[4]? =some vr
theorem SIi.lit{v0 vd vr:Value}{a:Act}(h:SIi v0 vd vr a):∃x:Nat->Value,a={tmps:=#[v0,x 1,x 2,vd,vr,x 5,x 6,x 7,x 8,x 9,x 10,x 11,x 12,x 13,x 14,x 15,x 16,x 17,x 18,x 19,x 20,x 21,x 22,x 23,x 24,x 25,x 26,x 27,x 28,x 29,x 30,x 31,x 32,x 33,x 34,x 35,x 36,x 37],defers:=[]}:=by
 refine⟨fun i=>a.tmps.getD i undef,?_⟩
 obtain⟨t,d⟩:=a
 obtain⟨h1,h2,k0,k3,k4⟩:=h
 simp only at h1 h2 k0 k3 k4
 subst h1
 have e0:t.getD 0 undef=v0:=by rw[Array.getD_eq_getD_getElem?,k0];rfl
 have e3:t.getD 3 undef=vd:=by rw[Array.getD_eq_getD_getElem?,k3];rfl
 have e4:t.getD 4 undef=vr:=by rw[Array.getD_eq_getD_getElem?,k4];rfl
 have ht:=gx 38 t h2
 rw[←e0,←e3,←e4]
 exact congrArg (fun t=>({tmps:=t,defers:=[]}:Act)) ht
abbrev jf:Code:=av Tryz.f78
abbrev BN(n:Nat):Code:=bQ (ah n jf)
theorem XE:(Tryz.f78).body=some (.seq (BN 0) (.seq (BN 1) (.seq (BN 2) (.seq (BN 3) (ah 4 jf))))):=by kernel_rfl
theorem SW{w:World}{s:U}(hs:s.size<=8589934592)(h2:s.size<2∨(s.get! 0).toNat≠48)(C:Code)(Q:Exit->Act->World->Prop)(hQ:∀a',a'.defers=[]->a'.tmps[2]? =some (.bool (cC s fL))->Q .ret a' w):
 (Code.seq (BN 0) (.seq (BN 1) C)).wp Tryz.prog Q {tmps:=#[.string s]++Array.replicate 37 undef,defers:=[]} w:=by
 have hR:=fun w=>je w s fL (by omega) (by decide)
 generalize cC s fL=r at hR hQ
 unfold fL at hR
 by_cases k2:s.size<2
 ·have k:(s.size:Int)<2:=by omega
  simp only[BN,bQ,jf,av,Tryz.f78,Option.getD,ah,cO,Option.map,Array.replicate_succ,Array.replicate_zero,List.push_toArray,List.append_toArray,List.nil_append,List.cons_append]
  go_wp2_with (go_at_call 80;refine(hR _).mono ?_;rintro en w1 ⟨rfl,rfl⟩)
  all_goals exact hQ _ rfl rfl
 ·have UG:=h2.resolve_left k2
  have k0:0<s.size:=by omega
  have k1:(0:Int)<(s.size:Int):=by omega
  have k:¬(s.size:Int)<2:=by omega
  rw[dP s 0 k0]at UG
  have e0:(((s[0].toNat:Nat):Int) != 48)=true:=by simp;omega
  simp only[BN,bQ,jf,av,Tryz.f78,Option.getD,ah,cO,Option.map,Array.replicate_succ,Array.replicate_zero,List.push_toArray,List.append_toArray,List.nil_append,List.cons_append]
  go_wp2_with (go_at_call 80;refine(hR _).mono ?_;rintro en w1 ⟨rfl,rfl⟩)
  all_goals exact hQ _ rfl rfl
theorem XF{w:World}{s:U}(k2:¬s.size<2)(UG:(s.get! 0).toNat=48)(C:Code)(Q:Exit->Act->World->Prop)(hQ:∀a' w',SIi (.string s) (.string g_) (.string (s.extract 1 s.size)) a'->Below w.heap.size w w'->C.wp Tryz.prog Q a' w'):
 (Code.seq (BN 0) (.seq (BN 1) (.seq (BN 2) C))).wp Tryz.prog Q {tmps:=#[.string s]++Array.replicate 37 undef,defers:=[]} w:=by
 have k0:0<s.size:=by omega
 have k1:(0:Int)<(s.size:Int):=by omega
 have k:¬(s.size:Int)<2:=by omega
 have k5:(1:Int)<=(s.size:Int):=by omega
 rw[dP s 0 k0]at UG
 have e0:(((s[0].toNat:Nat):Int) != 48)=false:=by simp[UG]
 unfold g_ at hQ
 simp only[BN,bQ,jf,av,Tryz.f78,Option.getD,ah,cO,Option.map,Array.replicate_succ,Array.replicate_zero,List.push_toArray,List.append_toArray,List.nil_append,List.cons_append]
 go_wp2_with fail
 all_goals try (go_quiet (fail))
 all_goals (go_wp2_with fail)
 all_goals exact hQ _ _ ⟨rfl,rfl,rfl,rfl,rfl⟩ (below_drewN _ _ _)
theorem ace{w:World}{s:U}(k2:¬s.size<2)(a:Act)(hz:SIi (.string s) (.string g_) (.string (s.extract 1 s.size)) a)(C:Code)(Q:Exit->Act->World->Prop)(hQ:∀a' w',SIi (.string s) (.string (Df s).1) (.string (Df s).2) a'->Below w.heap.size w w'->C.wp Tryz.prog Q a' w'):
 (Code.seq (BN 3) C).wp Tryz.prog Q a w:=by
 obtain⟨x,rfl⟩:=hz.lit
 clear hz
 have k3:1<s.size:=by omega
 have k4:(1:Int)<(s.size:Int):=by omega
 have k6:(2:Int)<=(s.size:Int):=by omega
 unfold Df at hQ
 rw[dP s 1 k3]at hQ
 have hb:s[1].toNat<256:=s[1].toNat_lt
 generalize hc:s[1].toNat=c at hQ hb
 have cast:∀n:Nat,c=n->((c:Int)==(n:Int))=true:=fun n h=>by simp[h]
 have tQ:∀n:Nat,c≠n->((c:Int)==(n:Int))=false:=fun n h=>by simp;omega
 unfold g_ fT Jo at hQ
 unfold g_
 by_cases x1:c=120∨c=88
 ·rw[if_pos x1]at hQ
  simp only at hQ
  by_cases x2:c=120
  ·have e1:((c:Int)==120)=true:=cast 120 x2
   simp only[BN,bQ,jf,av,Tryz.f78,Option.getD,ah,cO,Option.map]
   go_wp2_with fail
   all_goals try (go_quiet (fail))
   all_goals (go_wp2_with fail)
   all_goals exact hQ _ _ ⟨rfl,rfl,rfl,rfl,rfl⟩ (below_drewN _ _ _)
  ·have e1:((c:Int)==120)=false:=tQ 120 x2
   have e2:((c:Int)==88)=true:=cast 88 (x1.resolve_left x2)
   simp only[BN,bQ,jf,av,Tryz.f78,Option.getD,ah,cO,Option.map]
   go_wp2_with fail
   all_goals try (go_quiet (fail))
   all_goals (go_wp2_with fail)
   all_goals exact hQ _ _ ⟨rfl,rfl,rfl,rfl,rfl⟩ (below_drewN _ _ _)
 ·rw[if_neg x1]at hQ
  have e1:((c:Int)==120)=false:=tQ 120 (fun h=>x1 (.inl h))
  have e2:((c:Int)==88)=false:=tQ 88 (fun h=>x1 (.inr h))
  by_cases x2:c=98∨c=66
  ·rw[if_pos x2]at hQ
   simp only at hQ
   by_cases x3:c=98
   ·have e3:((c:Int)==98)=true:=cast 98 x3
    simp only[BN,bQ,jf,av,Tryz.f78,Option.getD,ah,cO,Option.map]
    go_wp2_with fail
    all_goals try (go_quiet (fail))
    all_goals (go_wp2_with fail)
    all_goals exact hQ _ _ ⟨rfl,rfl,rfl,rfl,rfl⟩ (below_drewN _ _ _)
   ·have e3:((c:Int)==98)=false:=tQ 98 x3
    have e4:((c:Int)==66)=true:=cast 66 (x2.resolve_left x3)
    simp only[BN,bQ,jf,av,Tryz.f78,Option.getD,ah,cO,Option.map]
    go_wp2_with fail
    all_goals try (go_quiet (fail))
    all_goals (go_wp2_with fail)
    all_goals exact hQ _ _ ⟨rfl,rfl,rfl,rfl,rfl⟩ (below_drewN _ _ _)
  ·rw[if_neg x2]at hQ
   have e3:((c:Int)==98)=false:=tQ 98 (fun h=>x2 (.inl h))
   have e4:((c:Int)==66)=false:=tQ 66 (fun h=>x2 (.inr h))
   by_cases x3:c=111∨c=79
   ·rw[if_pos x3]at hQ
    simp only at hQ
    by_cases x4:c=111
    ·have e5:((c:Int)==111)=true:=cast 111 x4
     simp only[BN,bQ,jf,av,Tryz.f78,Option.getD,ah,cO,Option.map]
     go_wp2_with fail
     all_goals exact hQ _ _ ⟨rfl,rfl,rfl,rfl,rfl⟩ (Below.refl _ _)
    ·have e5:((c:Int)==111)=false:=tQ 111 x4
     have e6:((c:Int)==79)=true:=cast 79 (x3.resolve_left x4)
     simp only[BN,bQ,jf,av,Tryz.f78,Option.getD,ah,cO,Option.map]
     go_wp2_with fail
     all_goals exact hQ _ _ ⟨rfl,rfl,rfl,rfl,rfl⟩ (Below.refl _ _)
   ·rw[if_neg x3]at hQ
    simp only at hQ
    have e5:((c:Int)==111)=false:=tQ 111 (fun h=>x3 (.inl h))
    have e6:((c:Int)==79)=false:=tQ 79 (fun h=>x3 (.inr h))
    simp only[BN,bQ,jf,av,Tryz.f78,Option.getD,ah,cO,Option.map]
    go_wp2_with fail
    all_goals exact hQ _ _ ⟨rfl,rfl,rfl,rfl,rfl⟩ (Below.refl _ _)
theorem XG{w:World}{s d r:U}(hr:r.size<=8589934592)(hd:d.size<=1000)(a:Act)(hz:SIi (.string s) (.string d) (.string r) a)(Q:Exit->Act->World->Prop)(hQ:∀a',a'.defers=[]->a'.tmps[2]? =some (.bool (cC (fU r) d))->Q .ret a' w):(ah 4 jf).wp Tryz.prog Q a w:=by
 obtain⟨x,rfl⟩:=hz.lit
 clear hz
 have hT:=fun w=>Tryz.strings_TrimPrefix r ⟨#[95]⟩ w
 have hR:=fun w=>je w (fU r) d (by have:=zj r;omega) hd
 have hT:∀w,Calls Tryz.prog 106 #[.string r,.string ⟨#[95]⟩] w fun e w'=>e= .returned (.string (fU r))∧w'=w:=hT
 generalize fU r=t at hT hR hQ
 simp only[jf,av,Tryz.f78,Option.getD,ah,cO,Option.map]
 go_wp2_with (first
  |(go_at_call 106;refine(hT _).mono ?_;rintro en w1 ⟨rfl,rfl⟩)
  |(go_at_call 80;refine(hR _).mono ?_;rintro en w1 ⟨rfl,rfl⟩))
 exact hQ _ rfl rfl
theorem zl(w:World)(s:U)(hs:s.size<=8589934592):Calls Tryz.prog 78 #[.string s] w fun e w'=>e= .returned (.bool (mE s))∧Below w.heap.size w w':=by
 refine calls_of_wp Tryz.func78 XE ?_
 have yV:(Tryz.f78).ntmps-(#[.string s]:Array Value).size=37:=by kernel_rfl
 rw[yV]
 unfold mE
 by_cases h:s.size<2∨(s.get! 0).toNat≠48
 ·rw[if_pos h]
  exact SW hs h _ _ (fun a' d0 d2=>⟨d0,_,bK (k:=2) (by kernel_rfl) d2,rfl,Below.refl _ _⟩)
 ·rw[if_neg h]
  have h1:¬s.size<2:=fun e=>h (.inl e)
  have h2:(s.get! 0).toNat=48:=by
   by_cases e:(s.get! 0).toNat=48
   ·exact e
   ·exact absurd (.inr e) h
  refine XF h1 h2 _ _ (fun a1 w1 z1 b1=> ?_)
  refine ace h1 a1 z1 _ _ (fun a2 w2 z2 b2=> ?_)
  have hr:(Df s).2.size<=8589934592∧(Df s).1.size<=1000:=by
   unfold Df
   split
   ·exact⟨by rw[ByteArray.size_extract];omega,show fT.size<=1000 by decide⟩
   ·split
    ·exact⟨by rw[ByteArray.size_extract];omega,show Jo.size<=1000 by decide⟩
    ·split
     ·exact⟨by rw[ByteArray.size_extract];omega,show g_.size<=1000 by decide⟩
     ·exact⟨by rw[ByteArray.size_extract];omega,show g_.size<=1000 by decide⟩
  exact XG hr.1 hr.2 a2 z2 _ (fun a' d0 d2=>⟨d0,_,bK (k:=2) (by kernel_rfl) d2,rfl,dC b1 b2⟩)
theorem zm(s b:U):∀(n i:Nat),(iL s b n i).1.size<=s.size∧(iL s b n i).2.1.size<=s.size
 |0,i=>⟨Nat.le_refl _,Nat.zero_le _⟩
 |n+1,i=>by
  simp only[iL]
  split
  ·split
   ·simp only[ByteArray.size_extract];omega
   ·exact zm s b n (i+1)
  ·exact⟨Nat.le_refl _,Nat.zero_le _⟩
theorem kP(s b:U):(dQ s b).1.size<=s.size∧(dQ s b).2.1.size<=s.size:=zm s b _ _
abbrev lE:Code:=av Tryz.f79
abbrev DU(n:Nat):Code:=bQ (ah n lE)
def uR:Code->Code
 | .seq _ b=>uR b
 | .cond _ a _=>a
 |c=>c
def xd(L:Code):Code->Code
 | .seq a b=> .seq a (xd L b)
 | .cond o _ b=> .cond o L b
 |c=>c
abbrev oi:Code:=uR (DU 1)
abbrev SX(n:Nat):Code:=bQ (ah n oi)
theorem XH:(Tryz.f79).body=some (.seq (DU 0) (.seq (xd oi (DU 1)) (.seq (DU 2) (.seq (DU 3) (.seq (DU 4) (ah 5 lE)))))):=by kernel_rfl
theorem XI:oi= .seq (SX 0) (.seq (SX 1) (.seq (SX 2) (.seq (SX 3) (ah 4 oi)))):=by kernel_rfl
structure SF1(v0:Value)(a:Act):Prop where
 defers:a.defers=[]
 size:a.tmps.size=117
 s0:a.tmps[0]? =some v0
theorem SF1.lit{v0:Value}{a:Act}(h:SF1 v0 a):∃x:Nat->Value,a={tmps:=#[v0,x 1,x 2,x 3,x 4,x 5,x 6,x 7,x 8,x 9,x 10,x 11,x 12,x 13,x 14,x 15,x 16,x 17,x 18,x 19,x 20,x 21,x 22,x 23,x 24,x 25,x 26,x 27,x 28,x 29,x 30,x 31,x 32,x 33,x 34,x 35,x 36,x 37,x 38,x 39,x 40,x 41,x 42,x 43,x 44,x 45,x 46,x 47,x 48,x 49,x 50,x 51,x 52,x 53,x 54,x 55,x 56,x 57,x 58,x 59,x 60,x 61,x 62,x 63,x 64,x 65,x 66,x 67,x 68,x 69,x 70,x 71,x 72,x 73,x 74,x 75,x 76,x 77,x 78,x 79,x 80,x 81,x 82,x 83,x 84,x 85,x 86,x 87,x 88,x 89,x 90,x 91,x 92,x 93,x 94,x 95,x 96,x 97,x 98,x 99,x 100,x 101,x 102,x 103,x 104,x 105,x 106,x 107,x 108,x 109,x 110,x 111,x 112,x 113,x 114,x 115,x 116],defers:=[]}:=by
 refine⟨fun i=>a.tmps.getD i undef,?_⟩
 obtain⟨t,d⟩:=a
 obtain⟨h1,h2,k0⟩:=h
 simp only at h1 h2 k0
 subst h1
 have e0:t.getD 0 undef=v0:=by rw[Array.getD_eq_getD_getElem?,k0];rfl
 have ht:=gx 117 t h2
 rw[←e0]
 exact congrArg (fun t=>({tmps:=t,defers:=[]}:Act)) ht
structure SF2(ve vk vw vr vp:Value)(a:Act):Prop where
 defers:a.defers=[]
 size:a.tmps.size=117
 s4:a.tmps[4]? =some ve
 s5:a.tmps[5]? =some vk
 s6:a.tmps[6]? =some vw
 s7:a.tmps[7]? =some vr
 s8:a.tmps[8]? =some vp
theorem SF2.lit{ve vk vw vr vp:Value}{a:Act}(h:SF2 ve vk vw vr vp a):∃x:Nat->Value,a={tmps:=#[x 0,x 1,x 2,x 3,ve,vk,vw,vr,vp,x 9,x 10,x 11,x 12,x 13,x 14,x 15,x 16,x 17,x 18,x 19,x 20,x 21,x 22,x 23,x 24,x 25,x 26,x 27,x 28,x 29,x 30,x 31,x 32,x 33,x 34,x 35,x 36,x 37,x 38,x 39,x 40,x 41,x 42,x 43,x 44,x 45,x 46,x 47,x 48,x 49,x 50,x 51,x 52,x 53,x 54,x 55,x 56,x 57,x 58,x 59,x 60,x 61,x 62,x 63,x 64,x 65,x 66,x 67,x 68,x 69,x 70,x 71,x 72,x 73,x 74,x 75,x 76,x 77,x 78,x 79,x 80,x 81,x 82,x 83,x 84,x 85,x 86,x 87,x 88,x 89,x 90,x 91,x 92,x 93,x 94,x 95,x 96,x 97,x 98,x 99,x 100,x 101,x 102,x 103,x 104,x 105,x 106,x 107,x 108,x 109,x 110,x 111,x 112,x 113,x 114,x 115,x 116],defers:=[]}:=by
 refine⟨fun i=>a.tmps.getD i undef,?_⟩
 obtain⟨t,d⟩:=a
 obtain⟨h1,h2,k4,k5,k6,k7,k8⟩:=h
 simp only at h1 h2 k4 k5 k6 k7 k8
 subst h1
 have e4:t.getD 4 undef=ve:=by rw[Array.getD_eq_getD_getElem?,k4];rfl
 have e5:t.getD 5 undef=vk:=by rw[Array.getD_eq_getD_getElem?,k5];rfl
 have e6:t.getD 6 undef=vw:=by rw[Array.getD_eq_getD_getElem?,k6];rfl
 have e7:t.getD 7 undef=vr:=by rw[Array.getD_eq_getD_getElem?,k7];rfl
 have e8:t.getD 8 undef=vp:=by rw[Array.getD_eq_getD_getElem?,k8];rfl
 have ht:=gx 117 t h2
 rw[←e4,←e5,←e6,←e7,←e8]
 exact congrArg (fun t=>({tmps:=t,defers:=[]}:Act)) ht
structure SF3(vr vb:Value)(a:Act):Prop where
 defers:a.defers=[]
 size:a.tmps.size=117
 s7:a.tmps[7]? =some vr
 s9:a.tmps[9]? =some vb
theorem SF3.lit{vr vb:Value}{a:Act}(h:SF3 vr vb a):∃x:Nat->Value,a={tmps:=#[x 0,x 1,x 2,x 3,x 4,x 5,x 6,vr,x 8,vb,x 10,x 11,x 12,x 13,x 14,x 15,x 16,x 17,x 18,x 19,x 20,x 21,x 22,x 23,x 24,x 25,x 26,x 27,x 28,x 29,x 30,x 31,x 32,x 33,x 34,x 35,x 36,x 37,x 38,x 39,x 40,x 41,x 42,x 43,x 44,x 45,x 46,x 47,x 48,x 49,x 50,x 51,x 52,x 53,x 54,x 55,x 56,x 57,x 58,x 59,x 60,x 61,x 62,x 63,x 64,x 65,x 66,x 67,x 68,x 69,x 70,x 71,x 72,x 73,x 74,x 75,x 76,x 77,x 78,x 79,x 80,x 81,x 82,x 83,x 84,x 85,x 86,x 87,x 88,x 89,x 90,x 91,x 92,x 93,x 94,x 95,x 96,x 97,x 98,x 99,x 100,x 101,x 102,x 103,x 104,x 105,x 106,x 107,x 108,x 109,x 110,x 111,x 112,x 113,x 114,x 115,x 116],defers:=[]}:=by
 refine⟨fun i=>a.tmps.getD i undef,?_⟩
 obtain⟨t,d⟩:=a
 obtain⟨h1,h2,k7,k9⟩:=h
 simp only at h1 h2 k7 k9
 subst h1
 have e7:t.getD 7 undef=vr:=by rw[Array.getD_eq_getD_getElem?,k7];rfl
 have e9:t.getD 9 undef=vb:=by rw[Array.getD_eq_getD_getElem?,k9];rfl
 have ht:=gx 117 t h2
 rw[←e7,←e9]
 exact congrArg (fun t=>({tmps:=t,defers:=[]}:Act)) ht
structure SF4(ve vk vw vr vp:Value)(a:Act):Prop where
 defers:a.defers=[]
 size:a.tmps.size=117
 s11:a.tmps[11]? =some ve
 s12:a.tmps[12]? =some vk
 s13:a.tmps[13]? =some vw
 s14:a.tmps[14]? =some vr
 s15:a.tmps[15]? =some vp
theorem SF4.lit{ve vk vw vr vp:Value}{a:Act}(h:SF4 ve vk vw vr vp a):∃x:Nat->Value,a={tmps:=#[x 0,x 1,x 2,x 3,x 4,x 5,x 6,x 7,x 8,x 9,x 10,ve,vk,vw,vr,vp,x 16,x 17,x 18,x 19,x 20,x 21,x 22,x 23,x 24,x 25,x 26,x 27,x 28,x 29,x 30,x 31,x 32,x 33,x 34,x 35,x 36,x 37,x 38,x 39,x 40,x 41,x 42,x 43,x 44,x 45,x 46,x 47,x 48,x 49,x 50,x 51,x 52,x 53,x 54,x 55,x 56,x 57,x 58,x 59,x 60,x 61,x 62,x 63,x 64,x 65,x 66,x 67,x 68,x 69,x 70,x 71,x 72,x 73,x 74,x 75,x 76,x 77,x 78,x 79,x 80,x 81,x 82,x 83,x 84,x 85,x 86,x 87,x 88,x 89,x 90,x 91,x 92,x 93,x 94,x 95,x 96,x 97,x 98,x 99,x 100,x 101,x 102,x 103,x 104,x 105,x 106,x 107,x 108,x 109,x 110,x 111,x 112,x 113,x 114,x 115,x 116],defers:=[]}:=by
 refine⟨fun i=>a.tmps.getD i undef,?_⟩
 obtain⟨t,d⟩:=a
 obtain⟨h1,h2,W2,k12,k13,KQ,k15⟩:=h
 simp only at h1 h2 W2 k12 k13 KQ k15
 subst h1
 have e11:t.getD 11 undef=ve:=by rw[Array.getD_eq_getD_getElem?,W2];rfl
 have e12:t.getD 12 undef=vk:=by rw[Array.getD_eq_getD_getElem?,k12];rfl
 have e13:t.getD 13 undef=vw:=by rw[Array.getD_eq_getD_getElem?,k13];rfl
 have e14:t.getD 14 undef=vr:=by rw[Array.getD_eq_getD_getElem?,KQ];rfl
 have e15:t.getD 15 undef=vp:=by rw[Array.getD_eq_getD_getElem?,k15];rfl
 have ht:=gx 117 t h2
 rw[←e11,←e12,←e13,←e14,←e15]
 exact congrArg (fun t=>({tmps:=t,defers:=[]}:Act)) ht
theorem XJ{w:World}{s:U}(L C:Code)(Q:Exit->Act->World->Prop)
 (h1:cD s=true->∀a,SF1 (.string s) a->L.wp Tryz.prog (Exit.then (fun a w=>C.wp Tryz.prog Q a w) Q) a w)
 (h2:cD s=false->∀a,SF1 (.string s) a->C.wp Tryz.prog Q a w):
 (Code.seq (DU 0) (.seq (xd L (DU 1)) C)).wp Tryz.prog Q {tmps:=#[.string s]++Array.replicate 116 undef,defers:=[]} w:=by
 have hP1:=fun w=>Tryz.strings_HasPrefix s ⟨#[48,120]⟩ w
 have hP2:=fun w=>Tryz.strings_HasPrefix s ⟨#[48,88]⟩ w
 unfold cD at h1 h2
 generalize hp1:Lib.hasPrefix s.data.toList [48,120]=p1 at h1 h2
 generalize UB:Lib.hasPrefix s.data.toList [48,88]=p2 at h1 h2
 have hP1:∀w,Calls Tryz.prog 24 #[.string s,.string ⟨#[48,120]⟩] w fun e w'=>e= .returned (.bool p1)∧w'=w:=fun w=>by rw[←hp1];exact hP1 w
 have hP2:∀w,Calls Tryz.prog 24 #[.string s,.string ⟨#[48,88]⟩] w fun e w'=>e= .returned (.bool p2)∧w'=w:=fun w=>by rw[←UB];exact hP2 w
 clear hp1 UB
 simp only[DU,bQ,lE,av,Tryz.f79,Option.getD,ah,cO,Option.map,xd,Array.replicate_succ,Array.replicate_zero,List.push_toArray,List.append_toArray,List.nil_append,List.cons_append]
 cases p1 with
 |true=>
  have g1:=h1 rfl
  clear h1 h2
  go_wp2_with (go_at_call 24;refine(hP1 _).mono ?_;rintro en w1 ⟨rfl,rfl⟩)
  rename_i K hK
  refine Code.wp_mono (fun e a w h=> ?_) (g1 _ ⟨rfl,rfl,rfl⟩)
  cases e<;>first|exact hK _ _ h|exact h
 |false=>
  cases p2 with
  |true=>
   have g1:=h1 rfl
   clear h1 h2
   go_wp2_with (first
    |(go_at_call 24;refine(hP1 _).mono ?_;rintro en w1 ⟨rfl,rfl⟩)
    |(go_at_call 24;refine(hP2 _).mono ?_;rintro en w1 ⟨rfl,rfl⟩))
   rename_i K hK
   refine Code.wp_mono (fun e a w h=> ?_) (g1 _ ⟨rfl,rfl,rfl⟩)
   cases e<;>first|exact hK _ _ h|exact h
  |false=>
   have g2:=h2 rfl
   clear h1 h2
   go_wp2_with (first
    |(go_at_call 24;refine(hP1 _).mono ?_;rintro en w1 ⟨rfl,rfl⟩)
    |(go_at_call 24;refine(hP2 _).mono ?_;rintro en w1 ⟨rfl,rfl⟩))
   exact g2 _ ⟨rfl,rfl,rfl⟩
theorem XK{w:World}{s m e wh re:U}{ok pt:Bool}(hs:s.size<=8589934592)(h2:2<=s.size)(rO:dQ (s.extract 2 s.size) pP=(m,e,ok))(Ay:dQ m lQ=(wh,re,pt))(a:Act)(hz:SF1 (.string s) a)(C:Code)(Q:Exit->Act->World->Prop)
 (hQ:∀a' w',SF2 (.string e) (.bool ok) (.string wh) (.string re) (.bool pt) a'->Below w.heap.size w w'->C.wp Tryz.prog Q a' w'):(Code.seq (SX 0) (.seq (SX 1) C)).wp Tryz.prog Q a w:=by
 obtain⟨x,rfl⟩:=hz.lit
 clear hz
 have k6:(2:Int)<=(s.size:Int):=by omega
 have XL:=fun w=>tP w (s.extract 2 s.size) pP (by rw[ByteArray.size_extract];omega)
 have hms:m.size<=8589934592:=by
  have:=(kP (s.extract 2 s.size) pP).1
  rw[rO,ByteArray.size_extract]at this
  simp only at this
  omega
 have OU:=fun w=>tP w m lQ (by omega)
 rw[rO]at XL
 rw[Ay]at OU
 clear rO Ay
 unfold pP at XL
 unfold lQ at OU
 simp only at XL OU
 simp only[SX,bQ,oi,uR,DU,lE,av,Tryz.f79,Option.getD,ah,cO,Option.map]
 go_wp2_with (first
  |(go_at_call 107;have hh:=nF;refine(OU _).mono ?_;rintro en w3 ⟨rfl,AO⟩)
  |(go_at_call 107;refine(XL _).mono ?_;rintro en w2 ⟨rfl,nF⟩))
 exact hQ _ _ ⟨rfl,rfl,rfl,rfl,rfl,rfl,rfl⟩ (dC nF AO)
theorem afv{w:World}{e wh re:U}{ok pt:Bool}(he:e.size<=8589934592)(a:Act)(hz:SF2 (.string e) (.bool ok) (.string wh) (.string re) (.bool pt) a)(C:Code)(Q:Exit->Act->World->Prop)
 (h1:((!ok|| !gP e)||(emp wh&&emp re))=true->∀a',a'.defers=[]->a'.tmps[2]? =some (.bool false)->Q .ret a' w)
 (h2:((!ok|| !gP e)||(emp wh&&emp re))=false->∀a',SF2 (.string e) (.bool ok) (.string wh) (.string re) (.bool pt) a'->C.wp Tryz.prog Q a' w):(Code.seq (SX 2) C).wp Tryz.prog Q a w:=by
 obtain⟨x,rfl⟩:=hz.lit
 clear hz
 have hE:=fun w=>zk w e he
 unfold emp at h1 h2
 generalize gP e=eo at hE h1 h2
 generalize he1:wh.toList.isEmpty=ew at h1 h2
 generalize he2:re.toList.isEmpty=er at h1 h2
 simp only[SX,bQ,oi,uR,DU,lE,av,Tryz.f79,Option.getD,ah,cO,Option.map]
 have key:ok=false∨(ok=true∧eo=false)∨(ok=true∧eo=true∧ew=false)∨(ok=true∧eo=true∧ew=true∧er=false)∨(ok=true∧eo=true∧ew=true∧er=true):=by cases ok<;>cases eo<;>cases ew<;>cases er<;>simp
 rcases key with rfl|⟨rfl,rfl⟩|⟨rfl,rfl,rfl⟩|⟨rfl,rfl,rfl,rfl⟩|⟨rfl,rfl,rfl,rfl⟩
 all_goals
  (first
    |(have g1:=h1 rfl;clear h1 h2;go_wp2_with (go_at_call 108;refine(hE _).mono ?_;rintro en w4 ⟨rfl,rfl⟩);exact g1 _ rfl rfl)
    |(have g2:=h2 rfl;clear h1 h2;go_wp2_with (go_at_call 108;refine(hE _).mono ?_;rintro en w4 ⟨rfl,rfl⟩);exact g2 _ ⟨rfl,rfl,rfl,rfl,rfl,rfl,rfl⟩))
theorem SZ{w:World}{e wh re:U}{ok pt:Bool}(hw:wh.size<=8589934592)(a:Act)(hz:SF2 (.string e) (.bool ok) (.string wh) (.string re) (.bool pt) a)(C:Code)(Q:Exit->Act->World->Prop)
 (hQ:∀a',SF3 (.string re) (.bool (cC (fU wh) fT||(emp wh&&pt))) a'->C.wp Tryz.prog Q a' w):(Code.seq (SX 3) C).wp Tryz.prog Q a w:=by
 obtain⟨x,rfl⟩:=hz.lit
 clear hz
 have hT:=fun w=>Tryz.strings_TrimPrefix wh ⟨#[95]⟩ w
 have hT:∀w,Calls Tryz.prog 106 #[.string wh,.string ⟨#[95]⟩] w fun e w'=>e= .returned (.string (fU wh))∧w'=w:=hT
 have ZG:=fun w=>je w (fU wh) fT (by have:=zj wh;omega) (by decide)
 unfold emp at hQ
 generalize fU wh=tw at hT ZG hQ
 generalize cC tw fT=r1 at ZG hQ
 generalize he1:wh.toList.isEmpty=ew at hQ
 unfold fT at ZG
 simp only[SX,bQ,oi,uR,DU,lE,av,Tryz.f79,Option.getD,ah,cO,Option.map]
 have key:r1=true∨(r1=false∧ew=false)∨(r1=false∧ew=true∧pt=false)∨(r1=false∧ew=true∧pt=true):=by cases r1<;>cases ew<;>cases pt<;>simp
 rcases key with rfl|⟨rfl,rfl⟩|⟨rfl,rfl,rfl⟩|⟨rfl,rfl,rfl⟩
 all_goals
  go_wp2_with (first
   |(go_at_call 106;refine(hT _).mono ?_;rintro en w5 ⟨rfl,rfl⟩)
   |(go_at_call 80;refine(ZG _).mono ?_;rintro en w6 ⟨rfl,rfl⟩))
  exact hQ _ ⟨rfl,rfl,rfl,rfl⟩
theorem XM{w:World}{re:U}{b:Bool}(hr:re.size<=8589934592)(a:Act)(hz:SF3 (.string re) (.bool b) a)(Q:Exit->Act->World->Prop)
 (hQ:∀a',a'.defers=[]->a'.tmps[2]? =some (.bool (b&&(emp re||cC re fT)))->Q .ret a' w):(ah 4 oi).wp Tryz.prog Q a w:=by
 obtain⟨x,rfl⟩:=hz.lit
 clear hz
 have Di:=fun w=>je w re fT (by omega) (by decide)
 unfold emp at hQ
 generalize cC re fT=r2 at Di hQ
 generalize he2:re.toList.isEmpty=er at hQ
 unfold fT at Di
 simp only[oi,uR,bQ,DU,lE,av,Tryz.f79,Option.getD,ah,cO,Option.map]
 have key:b=false∨(b=true∧er=true)∨(b=true∧er=false∧r2=false)∨(b=true∧er=false∧r2=true):=by cases b<;>cases er<;>cases r2<;>simp
 rcases key with rfl|⟨rfl,rfl⟩|⟨rfl,rfl,rfl⟩|⟨rfl,rfl,rfl⟩
 all_goals
  go_wp2_with (go_at_call 80;refine(Di _).mono ?_;rintro en w7 ⟨rfl,rfl⟩)
  exact hQ _ rfl rfl
theorem XN{w:World}{s m e wh re:U}{ok pt:Bool}(hs:s.size<=8589934592)(rO:dQ s eE=(m,e,ok))(Ay:dQ m lQ=(wh,re,pt))(a:Act)(hz:SF1 (.string s) a)(C:Code)(Q:Exit->Act->World->Prop)
 (hQ:∀a' w',SF4 (.string e) (.bool ok) (.string wh) (.string re) (.bool pt) a'->Below w.heap.size w w'->C.wp Tryz.prog Q a' w'):(Code.seq (DU 2) (.seq (DU 3) C)).wp Tryz.prog Q a w:=by
 obtain⟨x,rfl⟩:=hz.lit
 clear hz
 have XL:=fun w=>tP w s eE hs
 have hms:m.size<=8589934592:=by
  have:=(kP s eE).1
  rw[rO]at this
  simp only at this
  omega
 have OU:=fun w=>tP w m lQ (by omega)
 rw[rO]at XL
 rw[Ay]at OU
 clear rO Ay
 unfold eE at XL
 unfold lQ at OU
 simp only at XL OU
 simp only[bQ,DU,lE,av,Tryz.f79,Option.getD,ah,cO,Option.map]
 go_wp2_with (first
  |(go_at_call 107;have hh:=nF;refine(OU _).mono ?_;rintro en w3 ⟨rfl,AO⟩)
  |(go_at_call 107;refine(XL _).mono ?_;rintro en w2 ⟨rfl,nF⟩))
 exact hQ _ _ ⟨rfl,rfl,rfl,rfl,rfl,rfl,rfl⟩ (dC nF AO)
theorem afw{w:World}{e wh re:U}{ok pt:Bool}(he:e.size<=8589934592)(a:Act)(hz:SF4 (.string e) (.bool ok) (.string wh) (.string re) (.bool pt) a)(C:Code)(Q:Exit->Act->World->Prop)
 (h1:(((ok&& !gP e)||(!ok&& !pt))||(emp wh&&emp re))=true->∀a',a'.defers=[]->a'.tmps[2]? =some (.bool false)->Q .ret a' w)
 (h2:(((ok&& !gP e)||(!ok&& !pt))||(emp wh&&emp re))=false->∀a',SF4 (.string e) (.bool ok) (.string wh) (.string re) (.bool pt) a'->C.wp Tryz.prog Q a' w):(Code.seq (DU 4) C).wp Tryz.prog Q a w:=by
 obtain⟨x,rfl⟩:=hz.lit
 clear hz
 have hE:=fun w=>zk w e he
 unfold emp at h1 h2
 generalize gP e=eo at hE h1 h2
 generalize he1:wh.toList.isEmpty=ew at h1 h2
 generalize he2:re.toList.isEmpty=er at h1 h2
 simp only[bQ,DU,lE,av,Tryz.f79,Option.getD,ah,cO,Option.map]
 have key:(ok=true∧eo=false)∨(ok=false∧pt=false)∨(ok=true∧eo=true∧ew=false)∨(ok=true∧eo=true∧ew=true∧er=false)∨(ok=true∧eo=true∧ew=true∧er=true)∨
  (ok=false∧pt=true∧ew=false)∨(ok=false∧pt=true∧ew=true∧er=false)∨(ok=false∧pt=true∧ew=true∧er=true):=by cases ok<;>cases eo<;>cases ew<;>cases er<;>cases pt<;>simp
 rcases key with⟨rfl,rfl⟩|⟨rfl,rfl⟩|⟨rfl,rfl,rfl⟩|⟨rfl,rfl,rfl,rfl⟩|⟨rfl,rfl,rfl,rfl⟩|⟨rfl,rfl,rfl⟩|⟨rfl,rfl,rfl,rfl⟩|⟨rfl,rfl,rfl,rfl⟩
 all_goals
  (first
    |(have g1:=h1 rfl;clear h1 h2;go_wp2_with (go_at_call 108;refine(hE _).mono ?_;rintro en w4 ⟨rfl,rfl⟩);exact g1 _ rfl rfl)
    |(have g2:=h2 rfl;clear h1 h2;go_wp2_with (go_at_call 108;refine(hE _).mono ?_;rintro en w4 ⟨rfl,rfl⟩);exact g2 _ ⟨rfl,rfl,rfl,rfl,rfl,rfl,rfl⟩))
theorem XO{w:World}{e wh re:U}{ok pt:Bool}(hw:wh.size<=8589934592)(hr:re.size<=8589934592)(a:Act)(hz:SF4 (.string e) (.bool ok) (.string wh) (.string re) (.bool pt) a)(Q:Exit->Act->World->Prop)
 (hQ:∀a',a'.defers=[]->a'.tmps[2]? =some (.bool ((emp wh||cC wh fL)&&(emp re||cC re fL)))->Q .ret a' w):(ah 5 lE).wp Tryz.prog Q a w:=by
 obtain⟨x,rfl⟩:=hz.lit
 clear hz
 have ZG:=fun w=>je w wh fL (by omega) (by decide)
 have Di:=fun w=>je w re fL (by omega) (by decide)
 unfold emp at hQ
 generalize cC wh fL=r1 at ZG hQ
 generalize cC re fL=r2 at Di hQ
 generalize he1:wh.toList.isEmpty=ew at hQ
 generalize he2:re.toList.isEmpty=er at hQ
 unfold fL at ZG Di
 simp only[lE,av,Tryz.f79,Option.getD,ah,cO,Option.map]
 have key:(ew=true∧er=true)∨(ew=true∧er=false∧r2=false)∨(ew=true∧er=false∧r2=true)∨(ew=false∧r1=false)∨(ew=false∧r1=true∧er=true)∨(ew=false∧r1=true∧er=false∧r2=false)∨(ew=false∧r1=true∧er=false∧r2=true):=by cases ew<;>cases er<;>cases r1<;>cases r2<;>simp
 rcases key with⟨rfl,rfl⟩|⟨rfl,rfl,rfl⟩|⟨rfl,rfl,rfl⟩|⟨rfl,rfl⟩|⟨rfl,rfl,rfl⟩|⟨rfl,rfl,rfl,rfl⟩|⟨rfl,rfl,rfl,rfl⟩
 all_goals
  go_wp2_with (first
   |(go_at_call 80;with_reducible refine(ZG _).mono ?_;rintro en w6 ⟨rfl,rfl⟩)
   |(go_at_call 80;with_reducible refine(Di _).mono ?_;rintro en w7 ⟨rfl,rfl⟩))
  exact hQ _ rfl rfl
theorem tR(w:World)(s:U)(hs:s.size<=8589934592):Calls Tryz.prog 79 #[.string s] w fun e w'=>e= .returned (.bool (fC s))∧Below w.heap.size w w':=by
 refine calls_of_wp Tryz.func79 XH ?_
 have yV:(Tryz.f79).ntmps-(#[.string s]:Array Value).size=116:=by kernel_rfl
 rw[yV]
 have fin:∀(b:Bool) (a':Act) (w':World),fC s=b->Below w.heap.size w w'->a'.defers=[]->a'.tmps[2]? =some (.bool b)->bodyPost Tryz.prog Tryz.f79 (fun e w'=>e= .returned (.bool (fC s))∧Below w.heap.size w w') .ret a' w':=fun b a' w' hb hB d0 d2=>⟨d0,_,bK (k:=2) (by kernel_rfl) d2,by rw[hb],hB⟩
 refine XJ _ _ _ (fun hh a z=> ?_) (fun hh a z=> ?_)
 ·have h2:2<=s.size:=by
   have hl:s.data.toList.length=s.size:=bu s
   unfold cD Lib.hasPrefix at hh
   rw[Bool.or_eq_true]at hh
   rcases hh with h|h<;>(have:=List.IsPrefix.length_le (List.isPrefixOf_iff_prefix.1 h);simp at this;omega)
  have hf:fC s=BK (dQ (s.extract 2 s.size) pP) (dQ (dQ (s.extract 2 s.size) pP).1 lQ):=if_pos hh
  rcases hc:dQ (s.extract 2 s.size) pP with⟨m,e,ok⟩
  rcases hd:dQ m lQ with⟨wh,re,pt⟩
  have z1:=kP (s.extract 2 s.size) pP
  have z2:=kP m lQ
  rw[hc,ByteArray.size_extract]at z1
  rw[hd]at z2
  simp only at z1 z2
  rw[hc]at hf
  simp only at hf
  rw[hd]at hf
  unfold BK at hf
  simp only at hf
  rw[XI]
  refine XK hs h2 hc hd a z _ _ (fun a1 w1 z3 b1=> ?_)
  refine afv (by omega) a1 z3 _ _ (fun hb a2 d0 d2=> ?_) (fun hb a2 z4=> ?_)
  ·rw[if_pos hb]at hf
   exact fin false a2 w1 hf b1 d0 d2
  ·rw[if_neg (by rw[hb];decide)]at hf
   refine SZ (by omega) a2 z4 _ _ (fun a3 z5=> ?_)
   exact XM (by omega) a3 z5 _ (fun a4 d0 d2=>fin _ a4 w1 hf b1 d0 d2)
 ·have hf:fC s=zh (dQ s eE) (dQ (dQ s eE).1 lQ):=if_neg (by rw[hh];decide)
  rcases hc:dQ s eE with⟨m,e,ok⟩
  rcases hd:dQ m lQ with⟨wh,re,pt⟩
  have z1:=kP s eE
  have z2:=kP m lQ
  rw[hc]at z1
  rw[hd]at z2
  simp only at z1 z2
  rw[hc]at hf
  simp only at hf
  rw[hd]at hf
  unfold zh at hf
  simp only at hf
  refine XN hs hc hd a z _ _ (fun a1 w1 z3 b1=> ?_)
  refine afw (by omega) a1 z3 _ _ (fun hb a2 d0 d2=> ?_) (fun hb a2 z4=> ?_)
  ·rw[if_pos hb]at hf
   exact fin false a2 w1 hf b1 d0 d2
  ·rw[if_neg (by rw[hb];decide)]at hf
   exact XO (by omega) (by omega) a2 z4 _ (fun a4 d0 d2=>fin _ a4 w1 hf b1 d0 d2)
theorem xf(b:U)(P:Int->Bool)(h:(b.data.toList.all fun x=>P ((x.toNat:Nat):Int))=true){x:Int}(h0:0<=x)(h1:x<256)(hm:dx b x=true):P x=true:=by
 unfold dx at hm
 rw[iB]at hm
 have:=List.all_eq_true.1 h _ hm
 rw[UInt8.toNat_ofNat']at this
 rw[show((x.toNat%2^8:Nat):Int)=x by omega]at this
 exact this
theorem zo{x:Int}(h0:0<=x)(h1:x<256)(h:dx fL x=true):48<=x∧x<=57:=by
 have:=xf fL (fun x=>decide (48<=x)&&decide (x<=57)) (by kernel_rfl) h0 h1 h
 simpa using this
theorem S0{x:Int}(h0:0<=x)(h1:x<256)(h:dx g_ x=true):48<=x∧x<=55:=by
 have:=xf g_ (fun x=>decide (48<=x)&&decide (x<=55)) (by kernel_rfl) h0 h1 h
 simpa using this
theorem S1{x:Int}(h0:0<=x)(h1:x<256)(h:dx Jo x=true):48<=x∧x<=49:=by
 have:=xf Jo (fun x=>decide (48<=x)&&decide (x<=49)) (by kernel_rfl) h0 h1 h
 simpa using this
theorem S3{x:Int}(h0:0<=x)(h1:x<256)(h:dx fT x=true):dj x=true:=
 xf fT (fun x=>dj x) (by kernel_rfl) h0 h1 h
theorem Dj{x:Int}(h0:48<=x)(h1:x<=57):aE x=true:=by unfold aE;simp[h0,h1]
structure v7(base:Int)(hex:Bool)(prev:Bool)(l:List Int):Prop where
 all:∀x∈l,gZ base x=true
 sep:∀d,(prev=true->d=48)->eQ hex d l=some 48
 dg:prev=false->bL l=true
 bad:base<=10->jr (48+base) l=false
theorem Dk{base:Int}{hex prev:Bool}{D:Int->Bool}{l:List Int}(h:gN D prev l=true)(qx:∀x∈l,0<=x∧x<256)(hD:∀x,0<=x->x<256->D x=true->gZ base x=true∧(aE x=true∨(hex=true∧dj x=true))∧(base<=10->x<48+base)):v7 base hex prev l:=by
 have BF:gZ base 95=true:=by unfold gZ;split<;>decide
 have hA:gN (fun x=>D x&&decide (0<=x∧x<256)) prev l=true:=by
  rw[tO]at h⊢
  refine⟨fun x hx=> ?_,h.2⟩
  rcases h.1 x hx with h1|h1
  ·left;have:=qx x hx;simp[h1,this]
  ·exact .inr h1
 have spl:∀x,(D x&&decide (0<=x∧x<256))=true->D x=true∧0<=x∧x<256:=fun x hx=>by simpa using hx
 refine⟨fun x hx=> ?_,fun d hd=>zg (hex:=hex) (fun x hx=> ?_) hA hd,fun hp=> ?_,fun hb=> ?_⟩
 ·rcases tJ h x hx with h1|h1
  ·exact(hD x (qx x hx).1 (qx x hx).2 h1).1
  ·rw[h1];exact BF
 ·obtain⟨g1,g2,g3⟩:=spl x hx
  exact(hD x g2 g3 g1).2.1
 ·subst hp;exact KW h
 ·unfold jr
  rw[List.any_eq_false]
  intro x hx
  rcases tJ h x hx with h1|h1
  ·have:=(hD x (qx x hx).1 (qx x hx).2 h1).2.2 hb
   simp;omega
  ·simp[h1]
theorem tT{hex prev:Bool}{l:List Int}(h:gN (dx fL) prev l=true)(qx:∀x∈l,0<=x∧x<256):v7 10 hex prev l:=
 Dk h qx (fun x h0 h1 hx=>by
  have:=zo h0 h1 hx
  have d:=Dj this.1 this.2
  exact⟨by show fS x=true;unfold fS;rw[d];rfl,.inl d,fun _=>by omega⟩)
theorem K3{prev:Bool}{l:List Int}(h:gN (dx g_) prev l=true)(qx:∀x∈l,0<=x∧x<256):v7 8 false prev l:=
 Dk h qx (fun x h0 h1 hx=>by
  have:=S0 h0 h1 hx
  have d:=Dj this.1 (by omega)
  exact⟨by show fS x=true;unfold fS;rw[d];rfl,.inl d,fun _=>by omega⟩)
theorem XP{prev:Bool}{l:List Int}(h:gN (dx Jo) prev l=true)(qx:∀x∈l,0<=x∧x<256):v7 2 false prev l:=
 Dk h qx (fun x h0 h1 hx=>by
  have:=S1 h0 h1 hx
  have d:=Dj this.1 (by omega)
  exact⟨by show fS x=true;unfold fS;rw[d];rfl,.inl d,fun _=>by omega⟩)
theorem Dl{prev:Bool}{l:List Int}(h:gN (dx fT) prev l=true)(qx:∀x∈l,0<=x∧x<256):v7 16 true prev l:=
 Dk h qx (fun x h0 h1 hx=>by
  have:=S3 h0 h1 hx
  exact⟨by show tH x=true;unfold tH;rw[this];rfl,.inr ⟨rfl,this⟩,fun h=>by omega⟩)
theorem BO(s:U):bX (fU s)=match bX s with|95::t=>t|l=>l:=by
 have hd:s.data.toList=(fU s).data.toList∨s.data.toList=95::(fU s).data.toList:=by
  unfold fU Lib.trimPrefix Lib.hasPrefix
  cases h:s.data.toList with
  |nil=>left;simp
  |cons a t=>
   by_cases ha:a=95
   ·subst ha;right;simp
   ·left
    have:(95==a)=false:=by simpa using fun e=>ha e.symm
    simp[List.isPrefixOf,this]
 unfold bX
 rcases hd with h|h
 ·cases hl:s.data.toList with
  |nil=>rw[←h,hl];rfl
  |cons a t=>
   have ht:(fU s).data.toList=a::t:=by rw[←h,hl]
   by_cases ha:a=95
   ·exfalso
    subst ha
    have:(fU s).data.toList=t:=by
     unfold fU Lib.trimPrefix Lib.hasPrefix
     rw[hl];simp
    rw[this]at ht
    have:=congrArg List.length ht
    simp at this
   ·rw[ht]
    simp only[List.map_cons]
    split
    ·rename_i heq
     simp only[List.cons.injEq]at heq
     exact absurd (UInt8.toNat_inj.1 (by show _=95;omega)) ha
    ·rfl
 ·rw[h];rfl
theorem S4{s:U}{D:Int->Bool}(h:gN D false (bX (fU s))=true):gN D true (bX s)=true:=by
 rw[BO]at h
 cases hl:bX s with
 |nil=>rw[hl]at h;cases h
 |cons c t=>
  rw[hl]at h
  by_cases hc:c=95
  ·subst hc
   simp only[gN,if_true,Bool.true_and]
   exact h
  ·have h:gN D false (c::t)=true:=by
    split at h
    ·rename_i heq;simp only[List.cons.injEq]at heq;exact absurd heq.1 hc
    ·exact h
   simp only[gN,if_neg hc]at h⊢
   exact h
theorem Gp{s:U}{D:Int->Bool}(h:gN D false (bX (fU s))=true):bL (bX s)=true:=by
 have hg:=KW h
 rw[BO]at hg
 cases hl:bX s with
 |nil=>rw[hl]at hg;cases hg
 |cons c t=>
  rw[hl]at hg
  by_cases hc:c=95
  ·subst hc
   unfold bL at hg⊢
   have hg:t.any (fun x=>x != 95)=true:=hg
   simp[hg]
  ·simp[bL,hc]
structure Body(l:List Int)(P:cI):Prop where
 wf:P.Wf
 im:P.im=false
 chars:P.chars=l
 ZH:(P.pt&&(decide (P.pre=111)||decide (P.pre=98)))=false
 dg:(decide (P.pre=48)||bL P.d1||bL P.d2)=true
 ex:j_ P.pre P.pt P.ex=true
 sep:eH (jd l)
theorem BP{l:List Int}(h:eH (jd l))(hl:l≠[]):eH (jd (l++[105])):=by
 obtain⟨d,h1,h2⟩:=h
 have fin:∀hex a e,eQ hex e a=some d->eH (eQ hex e (a++[105])):=fun hex a e he=>by
  refine⟨46,?_,by decide⟩
  rw[jc,he]
  simp only[Option.bind_some,eQ]
  rw[if_neg (by decide),if_neg (by cases hex<;>decide),if_neg h2]
 match l,hl with
 |[],hl=>exact absurd rfl hl
 |[c],_=>
  by_cases hc:c=48
  ·subst hc
   exact⟨46,by decide+kernel,by decide⟩
  ·have e:jd [c]=eQ false 46 [c]:=by
    unfold jd
    split
    ·rename_i heq;simp at heq
    ·rfl
   have e2:jd ([c]++[105])=eQ false 46 ([c]++[105]):=by
    unfold jd
    split
    ·rename_i heq
     simp only[List.cons_append,List.nil_append,List.cons.injEq]at heq
     exact absurd heq.1 hc
    ·rfl
   rw[e]at h1
   rw[e2]
   exact fin _ _ _ h1
 |c::c2::t,_=>
  by_cases hc:c=48
  ·subst hc
   simp only[jd,List.cons_append]at h1⊢
   by_cases hp:zf c2=true
   ·rw[if_pos hp]at h1⊢
    exact fin _ _ _ h1
   ·rw[if_neg hp]at h1⊢
    exact fin _ _ _ h1
  ·have e:∀u,jd (c::u)=eQ false 46 (c::u):=fun u=>by
    unfold jd
    split
    ·rename_i heq
     simp only[List.cons.injEq]at heq
     exact absurd heq.1 hc
    ·rfl
   rw[e]at h1
   rw[List.cons_append,e]
   exact fin _ _ _ h1
theorem rF{l:List Int}(h:∀c t,l=48::c::t->zf c=false):jd l=eQ false 46 l:=by
 match l with
 |[]=>rfl
 |[c]=>
  unfold jd
  split
  ·rename_i heq;simp at heq
  ·rfl
 |c::c2::t=>
  by_cases hc:c=48
  ·subst hc
   simp only[jd]
   rw[if_neg (by rw[h c2 t rfl];decide)]
  ·unfold jd
   split
   ·rename_i heq
    simp only[List.cons.injEq]at heq
    exact absurd heq.1 hc
   ·rfl
theorem Gq{c:Int}(h:fS c=true):zf c=false:=by
 have:=l9 h
 have hl:=py (c:=c) (by omega) (by omega)
 unfold zf
 simp
 omega
theorem zp{l:List Int}(h:gN (dx fL) false l=true)(qx:∀x∈l,0<=x∧x<256)(pt:Bool)(d2:List Int)(ex:kB)(hpt:pt=false->d2=[])(Mx:∀x∈d2,fS x=true)(hex:ze ex)(ia:j_ 0 pt ex=true)
 (Dm:eH ((eQ false 48 (fK pt++(d2++b9 ex))))):∃P,Body (l++(fK pt++(d2++b9 ex))) P∧P.pt=pt∧P.ex=ex∧P.d2=d2∧(P.pre=0∨P.pre=48)∧(P.pre=0->P.d1=l)∧(P.pre=48->l=48::P.d1):=by
 obtain⟨c,t,hl,hc,alQ,ht⟩:=BI h
 have Dn:=qx c (by rw[hl];simp)
 have hcd:=zo Dn.1 Dn.2 hc
 have R:=tT (hex:=false) h qx
 have ah_:=R.sep 46 (fun h=>by cases h)
 have hxe:∀e sg ds,ex=some (e,sg,ds)->fS e=false:=fun e sg ds hx=>by
  rw[hx]at hex
  obtain⟨w,_⟩:=hex
  rcases w with rfl|rfl|rfl|rfl<;>decide
 have ZI:eH (jd (l++(fK pt++(d2++b9 ex)))):=by
  rw[rF]
  ·rw[jc,ah_];exact Dm
  ·intro c' t' he
   rw[hl]at he
   cases t with
   |cons x t=>
    simp only[List.cons_append,List.cons.injEq]at he
    rw[←he.2.1]
    exact Gq (R.all x (by rw[hl];simp))
   |nil=>
    have he:fK pt++(d2++b9 ex)=c'::t':=by
     simp only[List.cons_append,List.nil_append,List.cons.injEq]at he
     exact he.2
    cases pt with
    |true=>
     have:(46:Int)=c':=by
      have he:(46:Int)::(d2++b9 ex)=c'::t':=he
      exact(List.cons.inj he).1
     rw[←this];decide+kernel
    |false=>
     rw[hpt rfl]at he
     have he:b9 ex=c'::t':=he
     cases ex with
     |none=>cases he
     |some y=>
      obtain⟨e,sg,ds⟩:=y
      have:e=c':=(List.cons.inj he).1
      rw[←this]
      obtain⟨w,_⟩:=hex
      rcases w with rfl|rfl|rfl|rfl<;>decide+kernel
 by_cases UG:c=48
 ·subst UG
  have Pl:j_ 48 pt ex=true:=by
   cases ex with
   |none=>simp[j_]
   |some y=>
    obtain⟨e,sg,ds⟩:=y
    simp only[j_,Bool.and_eq_true,Bool.not_eq_true',decide_eq_false_iff_not,not_and,Decidable.not_not]at ia⊢
    exact⟨⟨fun _ _=>trivial,fun he=>by have:=ia.1.2 he;omega⟩,ia.2⟩
  have hRt:∀x∈t,fS x=true:=fun x hx=>R.all x (by rw[hl];exact List.mem_cons_of_mem _ hx)
  refine⟨⟨48,0,t,pt,d2,ex,false⟩,⟨⟨.inr (.inl rfl),hRt,Mx,hpt,hex,hxe⟩,rfl,?_,?_,by simp,Pl,ZI⟩,rfl,rfl,rfl,.inr rfl,(fun h=>by cases h),fun _=>hl⟩
  ·show [48]++(t++(fK pt++(d2++(b9 ex++[]))))=_
   rw[hl,List.append_nil];rfl
  ·show(pt&&(decide ((48:Int)=111)||decide ((48:Int)=98)))=false
   simp
 ·refine⟨⟨0,0,l,pt,d2,ex,false⟩,⟨⟨.inl ⟨rfl,c,t,hl,by omega,hcd.2⟩,R.all,Mx,hpt,hex,hxe⟩,rfl,?_,?_,?_,ia,ZI⟩,rfl,rfl,rfl,.inl rfl,fun _=>rfl,fun h=>by cases h⟩
  ·show []++(l++(fK pt++(d2++(b9 ex++[]))))=_
   rw[List.append_nil];rfl
  ·show(pt&&(decide ((0:Int)=111)||decide ((0:Int)=98)))=false
   simp
  ·show(decide ((0:Int)=48)||bL l||bL d2)=true
   rw[R.dg rfl];simp
theorem zq{s:U}(h:0<s.size):bX s=(((s.get! 0).toNat:Nat):Int)::bX (s.extract 1 s.size):=by
 have:=du h
 rw[List.drop_zero]at this
 rw[this,ka _ _ _ (Nat.le_refl _),List.take_of_length_le (by rw[List.length_drop,cS];omega)]
theorem K4{s:U}(h:2<=s.size):bX s=(((s.get! 0).toNat:Nat):Int)::(((s.get! 1).toNat:Nat):Int)::bX (s.extract 2 s.size):=by
 have h0:=du (s:=s) (j:=0) (by omega)
 have h1:=du (s:=s) (j:=1) (by omega)
 rw[List.drop_zero]at h0
 rw[h0,h1,ka _ _ _ (Nat.le_refl _),List.take_of_length_le (by rw[List.length_drop,cS];omega)]
theorem XQ{s:U}:bX s=[]↔s.size=0:=by rw[←List.length_eq_zero_iff,cS]
theorem zr{s:U}{base:Int}{hex:Bool}{D:U}{r:U}(h:cC (fU r) D=true)(hr:∀{prev:Bool} {l:List Int},gN (dx D) prev l=true->(∀x∈l,0<=x∧x<256)->v7 base hex prev l):v7 base hex true (bX r)∧bL (bX r)=true:=by
 rw[ma]at h
 exact⟨hr (S4 h) (iA r),Gp h⟩
theorem Gr{s:U}(h:mE s=true):∃P,Body (bX s) P∧P.pt=false∧P.ex=none∧(P.base<=10->jr (48+P.base) P.d1=false):=by
 unfold mE at h
 by_cases hc:s.size<2∨(s.get! 0).toNat≠48
 ·rw[if_pos hc,ma]at h
  obtain⟨P,B,p1,p2,p3,p4,p5,p6⟩:=zp h (iA s) false [] none (fun _=>rfl) (fun x hx=>absurd hx List.not_mem_nil) trivial rfl ⟨48,rfl,by decide⟩
  have R:=tT (hex:=false) h (iA s)
  have e:bX s++(fK false++([]++b9 none))=bX s:=by show bX s++[]=_;rw[List.append_nil]
  rw[e]at B
  refine⟨P,B,p1,p2,fun hb=> ?_⟩
  rcases p4 with h0|UG
  ·have cN:P.base=10:=by unfold cI.base;rw[h0];decide
   rw[p5 h0,cN]
   exact R.bad (by decide)
  ·have hl:=p6 UG
   have hs:s.size=1:=by
    have hlen:=cS s
    rw[hl]at hlen
    simp only[List.length_cons]at hlen
    rcases hc with hc|hc
    ·omega
    ·exfalso
     rw[zq (by omega)]at hl
     have:=(List.cons.inj hl).1
     omega
   have:P.d1=[]:=by
    have hlen:=cS s
    rw[hl,hs]at hlen
    simp only[List.length_cons]at hlen
    exact List.eq_nil_of_length_eq_zero (by omega)
   rw[this];rfl
 ·rw[if_neg hc]at h
  have h2:2<=s.size:=by omega
  have UG:(s.get! 0).toNat=48:=by omega
  have fm:=K4 h2
  have cz:=zq (s:=s) (by omega)
  rw[UG]at fm cz
  have Dn:(((s.get! 1).toNat:Nat):Int)∈bX s:=by rw[fm];simp
  have hce:(bX (s.extract 1 s.size)).head?=some (((s.get! 1).toNat:Nat):Int):=by rw[cz]at fm;rw[(List.cons.inj fm).2];rfl
  have alT:∀n:Nat,(s.get! 1).toNat=n->(((s.get! 1).toNat:Nat):Int)=(n:Int):=fun n h=>by rw[h]
  unfold Df at h
  have Dp:∀(pre base:Int) (hex:Bool) (D:U),(∀{prev:Bool} {l:List Int},gN (dx D) prev l=true->(∀x∈l,0<=x∧x<256)->v7 base hex prev l)->cC (fU (s.extract 2 s.size)) D=true->
   (pre=120∧base=16∧hex=true∧((s.get! 1).toNat=120∨(s.get! 1).toNat=88))∨(pre=98∧base=2∧hex=false∧((s.get! 1).toNat=98∨(s.get! 1).toNat=66))∨(pre=111∧base=8∧hex=false∧((s.get! 1).toNat=111∨(s.get! 1).toNat=79))->
   ∃P,Body (bX s) P∧P.pt=false∧P.ex=none∧(P.base<=10->jr (48+P.base) P.d1=false):=fun pre base hex D hD eg hp=>by
   obtain⟨R,hg⟩:=zr (s:=s) eg hD
   have Dm:=R.sep 48 (fun _=>rfl)
   have F5:=py (c:=(((s.get! 1).toNat:Nat):Int)) (by omega) (by have:=(s.get! 1).toNat_lt;omega)
   have hpb:(⟨pre,(((s.get! 1).toNat:Nat):Int),bX (s.extract 2 s.size),false,[],none,false⟩:cI).base=base:=by
    unfold cI.base
    rcases hp with⟨rfl,rfl,_⟩|⟨rfl,rfl,_⟩|⟨rfl,rfl,_⟩<;>rfl
   have hps:decide (ay (((s.get! 1).toNat:Nat):Int)=120)=hex∧zf (((s.get! 1).toNat:Nat):Int)=true:=by
    unfold zf
    rcases hp with⟨_,_,rfl,h⟩|⟨_,_,rfl,h⟩|⟨_,_,rfl,h⟩
    ·have e:=F5.2.2.1.2 (by omega)
     simp[e]
    ·have e:=F5.2.2.2.2.2 (by omega)
     simp[e]
    ·have e:=F5.2.2.2.1.2 (by omega)
     simp[e]
   refine⟨⟨pre,(((s.get! 1).toNat:Nat):Int),bX (s.extract 2 s.size),false,[],none,false⟩,⟨⟨?_,?_,fun x hx=>absurd hx List.not_mem_nil,fun _=>rfl,trivial,fun e sg ds h=>by cases h⟩,rfl,?_,rfl,?_,?_,?_⟩,rfl,rfl,?_⟩
   ·show(pre=0∧_)∨pre=48∨(pre=120∧((((s.get! 1).toNat:Nat):Int)=120∨(((s.get! 1).toNat:Nat):Int)=88))∨(pre=111∧((((s.get! 1).toNat:Nat):Int)=111∨(((s.get! 1).toNat:Nat):Int)=79))∨(pre=98∧((((s.get! 1).toNat:Nat):Int)=98∨(((s.get! 1).toNat:Nat):Int)=66))
    rcases hp with⟨h1,_,_,h⟩|⟨h1,_,_,h⟩|⟨h1,_,_,h⟩
    ·exact .inr (.inr (.inl ⟨h1,by omega⟩))
    ·exact .inr (.inr (.inr (.inr ⟨h1,by omega⟩)))
    ·exact .inr (.inr (.inr (.inl ⟨h1,by omega⟩)))
   ·rw[hpb];exact R.all
   ·show(if pre=0 then []else if pre=48 then [48]else [48,(((s.get! 1).toNat:Nat):Int)])++(bX (s.extract 2 s.size)++[])=_
    rw[fm,List.append_nil]
    rcases hp with⟨rfl,_⟩|⟨rfl,_⟩|⟨rfl,_⟩<;>rfl
   ·show(decide (pre=48)||bL (bX (s.extract 2 s.size))||bL [])=true
    rw[hg];simp
   ·show(!(decide (pre=120)&&false))=true
    simp
   ·rw[fm]
    show eH (jd (48::_::_))
    simp only[jd]
    rw[if_pos hps.2,hps.1,Dm]
    exact⟨48,rfl,by decide⟩
   ·rw[hpb];exact R.bad
  by_cases x1:(s.get! 1).toNat=120∨(s.get! 1).toNat=88
  ·rw[if_pos x1]at h
   exact Dp 120 16 true fT Dl h (.inl ⟨rfl,rfl,rfl,x1⟩)
  ·rw[if_neg x1]at h
   by_cases x2:(s.get! 1).toNat=98∨(s.get! 1).toNat=66
   ·rw[if_pos x2]at h
    exact Dp 98 2 false Jo XP h (.inr (.inl ⟨rfl,rfl,rfl,x2⟩))
   ·rw[if_neg x2]at h
    by_cases x3:(s.get! 1).toNat=111∨(s.get! 1).toNat=79
    ·rw[if_pos x3]at h
     exact Dp 111 8 false g_ K3 h (.inr (.inr ⟨rfl,rfl,rfl,x3⟩))
    ·rw[if_neg x3]at h
     obtain⟨R,hg⟩:=zr (s:=s) h K3
     have Dm:=R.sep 48 (fun _=>rfl)
     refine⟨⟨48,0,bX (s.extract 1 s.size),false,[],none,false⟩,⟨⟨.inr (.inl rfl),R.all,fun x hx=>absurd hx List.not_mem_nil,fun _=>rfl,trivial,fun e sg ds h=>by cases h⟩,rfl,?_,rfl,by simp,rfl,?_⟩,rfl,rfl,fun hb=>R.bad hb⟩
     ·show [48]++(bX (s.extract 1 s.size)++[])=_
      rw[List.append_nil,cz];rfl
     ·rw[cz]
      show eH (jd (48::bX (s.extract 1 s.size)))
      rw[rF]
      ·show eH (eQ false 48 (bX (s.extract 1 s.size)))
       rw[Dm]
       exact⟨48,rfl,by decide⟩
      ·intro c t he
       have he:bX (s.extract 1 s.size)=c::t:=(List.cons.inj he).2
       exact Gq (R.all c (by rw[he];simp))
theorem Gs{e:U}(h:gP e=true):∃sg ds,bX e=sg++ds∧(sg=[]∨sg=[43]∨sg=[45])∧(∀x∈ds,fS x=true)∧bL ds=true∧(∀hex d,d≠95->eQ hex d (sg++ds)=some 48):=by
 have sgn:∀(hex:Bool) (c d:Int),c=43∨c=45->d≠95->∀l,eQ hex d (c::l)=eQ hex 46 l:=fun hex c d hc hd l=>by
  rcases hc with rfl|rfl<;>(simp only[eQ];rw[if_neg (by decide),if_neg (by cases hex<;>decide),if_neg hd])
 unfold gP at h
 by_cases hc:e.size≠0∧((e.get! 0).toNat=43∨(e.get! 0).toNat=45)
 ·rw[if_pos hc,ma]at h
  have R:=fun hex=>tT (hex:=hex) h (iA _)
  have hb:=zq (s:=e) (by omega)
  refine⟨[(((e.get! 0).toNat:Nat):Int)],bX (e.extract 1 e.size),hb,?_,(R false).all,(R false).dg rfl,fun hex d hd=> ?_⟩
  ·rcases hc.2 with h|h
   ·exact .inr (.inl (by rw[h];rfl))
   ·exact .inr (.inr (by rw[h];rfl))
  ·show eQ hex d ((((e.get! 0).toNat:Nat):Int)::bX (e.extract 1 e.size))=_
   rw[sgn hex _ d (by omega) hd,(R hex).sep 46 (fun h=>by cases h)]
 ·rw[if_neg hc,ma]at h
  have R:=fun hex=>tT (hex:=hex) h (iA _)
  exact⟨[],bX e,rfl,.inl rfl,(R false).all,(R false).dg rfl,fun hex d hd=>(R hex).sep d (fun h=>by cases h)⟩
structure S5(l:List Int)(d2:List Int)(ex:kB):Prop where
 chars:l=46::(d2++b9 ex)
 al:∀x∈d2,fS x=true
 dg:bL d2=true
 fst:∃c t,d2=c::t∧48<=c∧c<=57
 wf:ze ex
 ex:j_ 0 true ex=true
 sep:eH (jd l)
theorem Gt{x:Int}{a b:UInt8}(h0:0<=x)(h1:x<256)(h:dx ⟨#[a,b]⟩ x=true):x=(a.toNat:Nat)∨x=(b.toNat:Nat):=by
 unfold dx at h
 rw[iB]at h
 have h:UInt8.ofNat x.toNat∈[a,b]:=h
 have e:(UInt8.ofNat x.toNat).toNat=x.toNat:=by rw[UInt8.toNat_ofNat'];omega
 simp only[List.mem_cons,List.not_mem_nil,or_false]at h
 rcases h with h|h
 ·left;have:=congrArg UInt8.toNat h;omega
 ·right;have:=congrArg UInt8.toNat h;omega
theorem S6{x:Int}{a:UInt8}(h0:0<=x)(h1:x<256)(h:dx ⟨#[a]⟩ x=true):x=(a.toNat:Nat):=by
 unfold dx at h
 rw[iB]at h
 have h:UInt8.ofNat x.toNat∈[a]:=h
 have e:(UInt8.ofNat x.toNat).toNat=x.toNat:=by rw[UInt8.toNat_ofNat'];omega
 simp only[List.mem_singleton]at h
 have:=congrArg UInt8.toNat h;omega
theorem oo{s:U}:emp s=true↔bX s=[]:=by rw[tN,decide_eq_true_iff,XQ]
theorem K5(m:U):∃wh re pt,dQ m lQ=(wh,re,pt)∧bX m=bX wh++(fK pt++bX re)∧(pt=false->bX re=[]):=by
 obtain⟨h1,c,h2,h3,h4⟩|⟨h1,h2,h3,h4⟩:=Dg m lQ
 ·have Dn:=iA m c (by rw[h2];simp)
  have hc:=S6 (a:=46) Dn.1 Dn.2 h3
  refine⟨(dQ m lQ).1,(dQ m lQ).2.1,true,by rw[←h1],?_,fun h=>by cases h⟩
  rw[hc]at h2
  exact h2
 ·refine⟨(dQ m lQ).1,(dQ m lQ).2.1,false,by rw[←h1],?_,fun _=>by rw[h3];rfl⟩
  rw[h2,h3]
  show bX m=bX m++[]
  rw[List.append_nil]
theorem Dq{hex:Bool}{d:Int}(hd:d≠95)(l:List Int):eQ hex d (46::l)=eQ hex 46 l:=by
 simp only[eQ]
 rw[if_neg (by decide),if_neg (by cases hex<;>decide),if_neg hd]
theorem Dr{hex:Bool}{d e:Int}(hd:d≠95)(he:aE e=false∧e≠95∧(hex=true->dj e=false))(l:List Int):eQ hex d (e::l)=eQ hex 46 l:=by
 simp only[eQ]
 rw[if_neg he.2.1,if_neg ?_,if_neg hd]
 rintro(h|⟨h1,h2⟩)
 ·rw[he.1]at h;cases h
 ·rw[he.2.2 h1]at h2;cases h2
theorem uS(c:Int)(d1:List Int)(pt:Bool)(d2:List Int)(ex:kB)(im:Bool):(cI.mk 120 c d1 pt d2 ex im).base=16:=by
 unfold cI.base
 rfl
theorem xg{e:Int}(he:e=112∨e=80):aE e=false∧e≠95∧dj e=false∧tH e=false:=by
 rcases he with rfl|rfl<;>decide+kernel
theorem K6{e:Int}(he:e=101∨e=69):aE e=false∧e≠95:=by
 rcases he with rfl|rfl<;>decide+kernel
theorem Jq{s:U}(hp:cD s=true)(h:BK (dQ (s.extract 2 s.size) pP) (dQ (dQ (s.extract 2 s.size) pP).1 lQ)=true):∃P,Body (bX s) P∧P.ex.isSome=true:=by
 obtain⟨c,FI,hc,hcc⟩:∃c,bX s=48::c::bX (s.extract 2 s.size)∧(c=120∨c=88)∧2<=s.size:=by
  have key:∀b:UInt8,Lib.hasPrefix s.data.toList [48,b]=true->bX s=48::((b.toNat:Nat):Int)::bX (s.extract 2 s.size)∧2<=s.size:=fun b hb=>by
   unfold Lib.hasPrefix at hb
   obtain⟨t,ht⟩:=List.isPrefixOf_iff_prefix.1 hb
   have hl:s.data.toList.length=s.size:=bu s
   have h2:2<=s.size:=by rw[←hl,←ht];simp
   have e:=K4 h2
   have e2:bX s=48::((b.toNat:Nat):Int)::t.map (fun b=>((b.toNat:Nat):Int)):=by
    unfold bX;rw[←ht];rfl
   refine⟨?_,h2⟩
   rw[e]at e2
   rw[e]
   obtain⟨z1,z2⟩:=List.cons.inj e2
   obtain⟨z3,_⟩:=List.cons.inj z2
   rw[z1,z3]
  unfold cD at hp
  rw[Bool.or_eq_true]at hp
  rcases hp with hp|hp
  ·exact⟨120,(key 120 hp).1,.inl rfl,(key 120 hp).2⟩
  ·exact⟨88,(key 88 hp).1,.inr rfl,(key 88 hp).2⟩
 generalize s.extract 2 s.size=r at*
 obtain⟨wh,re,pt,d1,d2,d3⟩:=K5 (dQ r pP).1
 rw[d1]at h
 obtain⟨h1,e,h2,h3,h4⟩|⟨h1,h2,h3,h4⟩:=Dg r pP
 ·unfold BK at h
  rw[h1]at h
  simp only[Bool.not_true,Bool.false_or]at h
  cases hx:gP (dQ r pP).2.1 with
  |false=>rw[hx]at h;simp at h
  |true=>
   rw[hx]at h
   simp only[Bool.not_true,Bool.false_or]at h
   obtain⟨sg,ds,x1,x2,x3,x4,x5⟩:=Gs hx
   have S7:=iA r e (by rw[h2];simp)
   have he:=Gt (a:=112) (b:=80) S7.1 S7.2 h3
   have he:e=112∨e=80:=he
   have dH:¬(emp wh&&emp re)=true:=fun hh=>by rw[if_pos hh]at h;cases h
   rw[if_neg dH,Bool.and_eq_true,Bool.or_eq_true,Bool.or_eq_true,Bool.and_eq_true]at h
   obtain⟨g1,g2⟩:=h
   have ZJ:=py (c:=c) (by omega) (by omega)
   have aia:=py (c:=e) (by omega) (by omega)
   have W:(∀x∈bX wh,gZ 16 x=true)∧eQ true 48 (bX wh)=some 48∧(bL (bX wh)=true∨(bX wh=[]∧pt=true)):=by
    rcases g1 with g1|⟨g1,g3⟩
    ·obtain⟨R,hg⟩:=zr (s:=wh) g1 Dl
     exact⟨R.all,R.sep 48 (fun _=>rfl),.inl hg⟩
    ·have:=oo.1 g1
     rw[this]
     exact⟨fun x hx=>absurd hx List.not_mem_nil,rfl,.inr ⟨rfl,g3⟩⟩
   have V:(∀x∈bX re,gZ 16 x=true)∧(∃d,d≠95∧eQ true 46 (bX re)=some d)∧(bL (bX re)=true∨bX re=[]):=by
    rcases g2 with g2|g2
    ·have:=oo.1 g2
     rw[this]
     exact⟨fun x hx=>absurd hx List.not_mem_nil,⟨46,by decide,rfl⟩,.inr rfl⟩
    ·rw[ma]at g2
     have R:=Dl g2 (iA _)
     exact⟨R.all,⟨48,by decide,R.sep 46 (fun h=>by cases h)⟩,.inl (R.dg rfl)⟩
   have dg:(bL (bX wh)||bL (bX re))=true:=by
    rcases W.2.2 with h|⟨h,_⟩
    ·rw[h];rfl
    ·rcases V.2.2 with h'|h'
     ·rw[h'];simp
     ·exact absurd (by rw[Bool.and_eq_true];exact⟨oo.2 h,oo.2 h'⟩) dH
   refine⟨⟨120,c,bX wh,pt,bX re,some (e,sg,ds),false⟩,⟨⟨.inr (.inr (.inl ⟨rfl,hc⟩)),?_,?_,d3,⟨.inr (.inr he),x2,x3⟩,fun e' sg' ds' hh=> ?_⟩,rfl,?_,?_,?_,?_,?_⟩,rfl⟩
   ·rw[uS];exact W.1
   ·rw[uS];exact V.1
   ·simp only[Option.some.injEq,Prod.mk.injEq]at hh
    rw[←hh.1,uS]
    exact(xg he).2.2.2
   ·show [48,c]++(bX wh++(fK pt++(bX re++(e::(sg++ds)++[]))))=_
    rw[FI,h2,d2,x1,List.append_nil]
    simp
   ·show(pt&&(decide ((120:Int)=111)||decide ((120:Int)=98)))=false
    simp
   ·show(decide ((120:Int)=48)||bL (bX wh)||bL (bX re))=true
    rw[show decide ((120:Int)=48)=false from rfl,Bool.false_or];exact dg
   ·simp only[j_,Bool.and_eq_true,Bool.not_eq_true',decide_eq_false_iff_not]
    refine⟨⟨fun h=>by omega,fun h=>h.2 rfl⟩,x4⟩
   ·rw[FI,h2,d2,x1]
    simp only[jd]
    have acg:zf c=true:=by unfold zf;simp[ZJ.2.2.1.2 hc]
    have hx:decide (ay c=120)=true:=by simpa using ZJ.2.2.1.2 hc
    rw[if_pos acg,hx,List.append_assoc,jc,W.2.1]
    simp only[Option.bind_some]
    have UR:aE e=false∧e≠95∧(true=true->dj e=false):=⟨(xg he).1,(xg he).2.1,fun _=>(xg he).2.2.1⟩
    refine⟨48,?_,by decide⟩
    cases pt with
    |true=>
     show eQ true 48 (46::(bX re)++(e::(sg++ds)))=some 48
     obtain⟨d,k1,k2⟩:=V.2.1
     rw[List.cons_append,Dq (by decide),jc,k2]
     simp only[Option.bind_some]
     rw[Dr k1 UR,x5 true 46 (by decide)]
    |false=>
     rw[d3 rfl]
     show eQ true 48 (e::(sg++ds))=some 48
     rw[Dr (by decide) UR,x5 true 46 (by decide)]
 ·unfold BK at h
  rw[h1]at h
  simp at h
theorem Jr{s:U}(h:zh (dQ s eE) (dQ (dQ s eE).1 lQ)=true):(∃P,Body (bX s) P∧(P.pt=true∨P.ex.isSome=true))∨∃d2 ex,S5 (bX s) d2 ex:=by
 obtain⟨wh,re,pt,d1,d2,d3⟩:=K5 (dQ s eE).1
 rw[d1]at h
 have EX:∃ex:kB,bX s=bX (dQ s eE).1++b9 ex∧ze ex∧(∀pt,j_ 0 pt ex=true)∧(∀d,d≠95->eH (eQ false d (b9 ex)))∧(pt=true∨ex.isSome=true):=by
  obtain⟨h1,e,h2,h3,h4⟩|⟨h1,h2,h3,h4⟩:=Dg s eE
  ·unfold zh at h
   rw[h1]at h
   cases hx:gP (dQ s eE).2.1 with
   |false=>rw[hx]at h;simp at h
   |true=>
    obtain⟨sg,ds,x1,x2,x3,x4,x5⟩:=Gs hx
    have S7:=iA s e (by rw[h2];simp)
    have he:e=101∨e=69:=Gt (a:=101) (b:=69) S7.1 S7.2 h3
    have aia:=py (c:=e) (by omega) (by omega)
    have UR:aE e=false∧e≠95∧(false=true->dj e=false):=⟨(K6 he).1,(K6 he).2,fun h=>by cases h⟩
    refine⟨some (e,sg,ds),?_,⟨by omega,x2,x3⟩,fun pt=> ?_,fun d hd=>⟨48,?_,by decide⟩,.inr rfl⟩
    ·show bX s=_++e::(sg++ds)
     rw[←x1];exact h2
    ·simp only[j_,Bool.and_eq_true,Bool.not_eq_true',decide_eq_false_iff_not]
     exact⟨⟨fun h=>h.2.1 rfl,fun h=>by omega⟩,x4⟩
    ·show eQ false d (e::(sg++ds))=some 48
     rw[Dr hd UR,x5 false 46 (by decide)]
  ·refine⟨none,?_,trivial,fun pt=>by simp[j_],fun d hd=>⟨d,rfl,hd⟩,.inl ?_⟩
   ·show bX s=bX (dQ s eE).1++[]
    rw[h2,List.append_nil]
   ·unfold zh at h
    rw[h1]at h
    cases pt with
    |true=>rfl
    |false=>simp at h
 obtain⟨ex,x1,x2,x3,x4,x5⟩:=EX
 have dH:¬(emp wh&&emp re)=true∧(emp wh=true∨cC wh fL=true)∧(emp re=true∨cC re fL=true):=by
  unfold zh at h
  split at h
  ·cases h
  ·rename_i hh
   simp only[Bool.or_eq_true,not_or]at hh
   rw[Bool.and_eq_true,Bool.or_eq_true,Bool.or_eq_true]at h
   exact⟨hh.2,h.1,h.2⟩
 obtain⟨n1,n2,n3⟩:=dH
 have V:(∀x∈bX re,fS x=true)∧(∃d,d≠95∧eQ false 46 (bX re)=some d)∧(bX re=[]∨(bL (bX re)=true∧∃c t,bX re=c::t∧48<=c∧c<=57)):=by
  rcases n3 with g2|g2
  ·have:=oo.1 g2
   rw[this]
   exact⟨fun x hx=>absurd hx List.not_mem_nil,⟨46,by decide,rfl⟩,.inl rfl⟩
  ·rw[ma]at g2
   have R:=tT (hex:=false) g2 (iA _)
   obtain⟨c,t,z1,z2,z3,z4⟩:=BI g2
   have Dn:=iA re c (by rw[z1];simp)
   exact⟨R.all,⟨48,by decide,R.sep 46 (fun h=>by cases h)⟩,.inr ⟨R.dg rfl,c,t,z1,(zo Dn.1 Dn.2 z2)⟩⟩
 obtain⟨v1,⟨d,v2,v3⟩,v4⟩:=V
 by_cases hw:emp wh=true
 ·right
  have hwn:=oo.1 hw
  have Vg:¬bX re=[]:=fun e=>n1 (by rw[Bool.and_eq_true];exact⟨hw,oo.2 e⟩)
  have hpt:pt=true:=by
   cases pt with
   |true=>rfl
   |false=>exact absurd (d3 rfl) Vg
  obtain⟨w1,w2⟩:=v4.resolve_left Vg
  have hl:bX s=46::(bX re++b9 ex):=by
   rw[x1,d2,hwn,hpt];rfl
  refine⟨bX re,ex,hl,v1,w1,w2,x2,x3 true,?_⟩
  rw[hl,rF (fun c t he=>by have:=(List.cons.inj he).1;omega),Dq (by decide),jc,v3]
  exact x4 d v2
 ·left
  have eg:cC wh fL=true:=n2.resolve_left hw
  rw[ma]at eg
  obtain⟨P,B,p1,p2,p3,p4,p5,p6⟩:=zp eg (iA wh) pt (bX re) ex d3 v1 x2 (x3 pt) (by
   cases pt with
   |true=>
    show eH (eQ false 48 (46::(bX re++b9 ex)))
    rw[Dq (by decide),jc,v3]
    exact x4 d v2
   |false=>
    rw[d3 rfl]
    exact x4 48 (by decide))
  refine⟨P,?_,by rw[p1,p2];exact x5⟩
  rw[x1,d2]
  simpa[List.append_assoc] using B
theorem K7{b:Int}{x:Int}(h0:0<=x)(h1:x<=1114111)(h:gZ b x=true):47<x∧x<128:=by
 unfold gZ at h
 split at h
 ·have:=l9 h;omega
 ·have:=KV h0 h1 h;omega
theorem Js{ex:kB}(h:ze ex):∀x∈b9 ex,10<x∧x<128:=by
 cases ex with
 |none=>exact fun x hx=>absurd hx List.not_mem_nil
 |some t=>
  obtain⟨e,sg,ds⟩:=t
  obtain⟨w1,w2,w3⟩:=h
  intro x hx
  have hx:x∈e::(sg++ds):=hx
  rcases List.mem_cons.1 hx with rfl|hx
  ·omega
  ·rcases List.mem_append.1 hx with hx|hx
   ·rcases w2 with rfl|rfl|rfl
    ·cases hx
    ·simp only[List.mem_singleton]at hx;omega
    ·simp only[List.mem_singleton]at hx;omega
   ·have:=l9 (w3 x hx);omega
theorem K8{base:Int}{pt im:Bool}{d2:List Int}{ex:kB}(h2:∀x∈d2,gZ base x=true)(hx:ze ex)(qx:∀x∈d2,0<=x∧x<=1114111):∀x∈fK pt++(d2++(b9 ex++gd im)),10<x∧x<128:=by
 intro x oD
 rcases List.mem_append.1 oD with oD|oD
 ·cases pt with
  |true=>have oD:x∈[(46:Int)]:=oD;simp only[List.mem_singleton]at oD;omega
  |false=>exact absurd oD List.not_mem_nil
 ·rcases List.mem_append.1 oD with oD|oD
  ·have:=K7 (qx x oD).1 (qx x oD).2 (h2 x oD);omega
  ·rcases List.mem_append.1 oD with oD|oD
   ·exact Js hx x oD
   ·cases im with
    |true=>have oD:x∈[(105:Int)]:=oD;simp only[List.mem_singleton]at oD;omega
    |false=>exact absurd oD List.not_mem_nil
theorem cI.Wf.ach{P:cI}(h:P.Wf)(qx:∀x∈P.chars,0<=x∧x<256):∀x∈P.chars,10<x∧x<128:=by
 intro x hx
 unfold cI.chars at hx qx
 rcases List.mem_append.1 hx with hx|hx
 ·unfold cI.head at hx
  rcases h.pre with⟨h0,_⟩|h0|⟨h0,hp⟩|⟨h0,hp⟩|⟨h0,hp⟩
  ·rw[if_pos h0]at hx;cases hx
  ·rw[if_neg (by omega),if_pos h0]at hx;simp only[List.mem_singleton]at hx;omega
  all_goals
   rw[if_neg (by omega),if_neg (by omega)]at hx
   simp only[List.mem_cons,List.not_mem_nil,or_false]at hx
   omega
 ·rcases List.mem_append.1 hx with hx|hx
  ·have hi:=qx x (by simp[hx])
   have:=K7 hi.1 (by omega) (h.d1 x hx);omega
  ·exact K8 h.d2 h.ex (fun y hy=>by
    have:=qx y (by unfold cI.tail;simp[hy])
    omega) x hx
theorem XR{T s:U}{q:Nat}(h:Sub T q s):Hj T q (bX s):=by
 have hl:=h.le
 refine⟨by rw[cS];exact hl,fun j x hj=> ?_⟩
 have bz:j<s.size:=by have:=(List.getElem?_eq_some_iff.1 hj).1;rw[cS]at this;exact this
 rw[jb bz]at hj
 rw[h.get j bz]
 exact Option.some.inj hj
theorem Ds{T:U}:∀{l:List Int} {k:Nat},Hj T k l->(∀x∈l,0<x∧x<128)->Cl T k l (k+l.length)
 |[],k,_,_=> .nil
 |x::l,k,h,ha=>by
  have hx:=ha x (by simp)
  have:=Ds h.tail (fun y hy=>ha y (List.mem_cons_of_mem _ hy))
  rw[List.length_cons,show k+(l.length+1)=k+1+l.length by omega]
  exact .cons (h.jn hx.1 hx.2) this
theorem S8{T s:U}{q:Nat}(h:Sub T q s)(ha:∀x∈bX s,0<x∧x<128):Cl T q (bX s) (q+s.size):=by
 have:=Ds (XR h) ha
 rw[cS]at this
 exact this
theorem pA{T s:U}{q:Nat}(h:Sub T q s):T.extract q (q+s.size)=s:=by
 have hl:=h.le
 refine fx (by rw[aA _ _ _ hl];omega) (fun j hj=> ?_)
 rw[aA _ _ _ hl]at hj
 rw[a7 _ _ _ _ hl hj]
 exact h.get j (by omega)
theorem aci{O:U}{nl:Bool}{n:St}(h0:48<=n.ch)(h1:n.ch<=57):wy O nl ((jM O nl n).get iN)=(fp O false n,[.int .i64 (mz O false n).inv]):=by
 have:n.ch=48∨n.ch=49∨n.ch=50∨n.ch=51∨n.ch=52∨n.ch=53∨n.ch=54∨n.ch=55∨n.ch=56∨n.ch=57:=by omega
 rcases this with h|h|h|h|h|h|h|h|h|h<;>simp[jM,af.get,fi,h,wy]
theorem afx{O:U}{nl:Bool}{n:St}(h:n.ch=46)(hd:aE (aa O n).ch=true):wy O nl ((jM O nl n).get iN)=(fp O true (aa O n),[.int .i64 (mz O true (aa O n)).inv]):=by
 simp[jM,af.get,fi,h,hd,wy]
structure XS(O:U)(n:St)(q q2:Nat)(ok:Bool)(kind:Int)(s:St):Prop where
 gQ:Std O q2 s
 bad:s.bad= !ok
 Dd:ok=true->s.ab=n.ab
 told:ok=false->n.ab.length<s.ab.length
 lit:s.lit=O.extract q q2
 kind:s.kind=kind
 tok:s.tok=3
 nl:s.au=true
 mode:s.mode=n.mode
 lc:s.line=n.line∧s.aM=n.aM
theorem F7.res{O:U}{n:St}{q q2:Nat}{ok:Bool}{kind:Int}{t:bh}(h:F7 O n q q2 ok kind t):XS O n q q2 ok kind (CX t):=
 ⟨h.gQ.same rfl rfl rfl rfl,by show(!t.ok)=_;rw[h.ok],fun hk=>h.Dd (by rw[h.ok];exact hk),fun hk=>h.bad (by rw[h.ok];exact hk),h.lit,h.kind,h.tok,h.nl,h.mode,h.lc⟩
theorem S9{O:U}{nl:Bool}{p q q2:Nat}{cs:List Int}{st:St}{P:cI}(eJ:O.size<=2048)(IW:fQ O st)(hg:Go O p st)(hp:p<=O.size)(h:Cl O p cs q)(hb:∀x∈cs,aI nl x=true)
 (hw:P.Wf)(hc:Cl O q P.chars q2)(he:mC O q2 P.ex P.im):∃n s,(gv O nl st).1=s∧wz O q st n∧XS O n q q2 (P.ok (O.extract q q2)) P.kind s:=by
 obtain⟨c,t,hct,Qb,rO⟩:∃c t,P.chars=c::t∧48<=c∧c<=57:=by
  unfold cI.chars cI.head
  rcases hw.pre with⟨h0,c,t,hd,g1,g2⟩|h0|⟨h0,hp⟩|⟨h0,hp⟩|⟨h0,hp⟩
  ·rw[if_pos h0,hd];exact⟨c,_,rfl,by omega,g2⟩
  all_goals (rw[h0];exact⟨48,_,rfl,by decide,by decide⟩)
 have hk:∃w,bA O q c w:=by
  rw[hct]at hc
  cases hc with
  |cons k1 k2=>exact⟨_,k1⟩
 obtain⟨w,hk⟩:=hk
 have Jt:aI nl c=false:=by
  unfold aI
  simp
  omega
 obtain⟨n,hn,acj,e⟩:=FX eJ hg hp h hb (.inl ⟨_,_,hk⟩) (fun r' w' rQ=>by rw[(rQ.uniq hk).1];exact Jt)
 have kE:n.ch=c:=(hn.gQ.of hk).1
 have aic:cj n.ch=false:=by
  rw[kE]
  have:c=48∨c=49∨c=50∨c=51∨c=52∨c=53∨c=54∨c=55∨c=56∨c=57:=by omega
  rcases this with rfl|rfl|rfl|rfl|rfl|rfl|rfl|rfl|rfl|rfl<;>decide+kernel
 have R:=Xl hw ⟨hn.gQ,acj⟩ hn.b hc he
 refine⟨n,fp O false n,?_,hn,R.res⟩
 rw[dB IW eJ,e,Bs aic (by omega),aci (by omega) (by omega)]
theorem Gu{O:U}{nl:Bool}{p q q2:Nat}{cs:List Int}{st:St}{d2:List Int}{ex:kB}{im:Bool}(eJ:O.size<=2048)(IW:fQ O st)(hg:Go O p st)(hp:p<=O.size)(h:Cl O p cs q)(hb:∀x∈cs,aI nl x=true)
 (hc:Cl O q (46::(d2++(b9 ex++gd im))) q2)(Mx:∀x∈d2,fS x=true)(hf:∃c t,d2=c::t∧48<=c∧c<=57)(hw:ze ex)(he:mC O q2 ex im):
 ∃n s,(gv O nl st).1=s∧wz O q st n∧XS O n q q2 (bL d2&&j_ 0 true ex&& !((eA d2||zd ex)&&decide (0<=bC (O.extract q q2)))) (d_ true ex im) s:=by
 cases hc with
 |@cons _ w _ _ _ k1 k2=>
 obtain⟨_,rfl⟩:=k1.byte (by decide)
 have Jt:aI nl 46=false:=by cases nl<;>rfl
 obtain⟨n,hn,acj,e⟩:=FX eJ hg hp h hb (.inl ⟨_,_,k1⟩) (fun r' w' rQ=>by rw[(rQ.uniq k1).1];exact Jt)
 obtain⟨kE,g1,g2⟩:=rS.next ⟨hn.gQ,acj⟩ k1 (by decide) (k2.jq he.cl)
 obtain⟨c,t,hd,Qb,rO⟩:=hf
 have aid:(aa O n).ch=c:=by
  rw[hd]at k2
  cases k2 with
  |cons j1 j2=>exact(g1.gQ.of j1).1
 have R:=Jn (q:=q) g1 (by rw[g2.on.b];exact hn.b) (by omega) k2 Mx hw he
 have R2:=R.res
 refine⟨n,fp O true (aa O n),?_,hn,⟨R2.gQ,R2.bad,fun hk=>(R2.Dd hk).trans g2.ab,fun hk=>by rw[←g2.ab];exact R2.told hk,R2.lit,R2.kind,R2.tok,R2.nl,R2.mode.trans (by rw[g2.bm]),R2.lc.1.trans (by rw[g2.bm]),R2.lc.2.trans (by rw[g2.bm])⟩⟩
 rw[dB IW eJ,e,Bs (by rw[kE];decide+kernel) (by omega),afx kE (by rw[aid];exact Dj Qb rO)]
theorem K9(pt:Bool)(ex:kB)(im:Bool):0<=d_ pt ex im∧d_ pt ex im<=2:=by
 unfold d_
 split
 ·decide
 ·split<;>decide
theorem Dt{s:U}(hs:s.size<=2048)(h:eH (jd (bX s)))(b:Bool):(b&&decide (0<=bC s))=false:=by
 have:=(Al (s:=s) (by omega)).1.2 h
 rw[decide_eq_false (by omega),Bool.and_false]
theorem Body.ok{s:U}{P:cI}(B:Body (bX s) P)(hs:s.size<=2048)(lM:P.kind=0->P.base<=10->jr (48+P.base) P.d1=false):P.ok s=true:=by
 unfold cI.ok
 rw[B.ZH,B.dg,B.ex,Dt hs B.sep]
 by_cases hk:P.kind=0
 ·by_cases hb:P.base<=10
  ·rw[lM hk hb];simp
  ·rw[decide_eq_false hb];simp
 ·rw[decide_eq_false hk];simp
def cI.imag(P:cI):cI:={P with im:=true}
theorem Body.imag{n s:U}{P:cI}(B:Body (bX n) P)(hb:bX s=bX n++[105])(hs:s.size<=2048):P.imag.Wf∧P.imag.chars=bX s∧P.imag.ok s=true∧P.imag.kind=2:=by
 have dH:bX n≠[]:=fun e=>by
  have:=B.sep
  have hd:=B.dg
  have hc:=B.chars
  rw[e]at hc
  unfold cI.chars cI.head at hc
  rcases B.wf.pre with⟨h0,c,t,hdd,_⟩|h0|⟨h0,_⟩|⟨h0,_⟩|⟨h0,_⟩
  ·rw[if_pos h0,hdd]at hc;cases hc
  all_goals (rw[h0]at hc;cases hc)
 refine⟨⟨B.wf.pre,B.wf.d1,B.wf.d2,B.wf.pt,B.wf.ex,B.wf.xe⟩,?_,?_,rfl⟩
 ·have hc:=B.chars
  unfold cI.chars cI.tail at hc⊢
  rw[B.im]at hc
  rw[hb,←hc]
  show P.head++(P.d1++(fK P.pt++(P.d2++(b9 P.ex++[105]))))=P.head++(P.d1++(fK P.pt++(P.d2++(b9 P.ex++[]))))++[105]
  simp only[List.append_assoc,List.append_nil]
 ·unfold cI.ok
  have Dm:eH (jd (bX s)):=by rw[hb];exact BP B.sep dH
  rw[Dt hs Dm]
  show(!(P.pt&&(decide (P.pre=111)||decide (P.pre=98)))&&(decide (P.pre=48)||bL P.d1||bL P.d2)&&j_ P.pre P.pt P.ex&& !(decide ((2:Int)=0)&&_)&& !false)=true
  rw[B.ZH,B.dg,B.ex]
  rfl
theorem BQ{s:U}(hs:s.size<=2048)(h:fC s=true):(∃P,Body (bX s) P∧P.kind=1)∨∃d2 ex,S5 (bX s) d2 ex:=by
 have one:∀P:cI,P.im=false->(P.pt=true∨P.ex.isSome=true)->P.kind=1:=fun P h1 h2=>by
  unfold cI.kind d_
  rw[h1,if_neg (by simp),if_pos h2]
 unfold fC at h
 split at h
 ·rename_i hp
  obtain⟨P,B,hx⟩:=Jq hp h
  exact .inl ⟨P,B,one P B.im (.inr hx)⟩
 ·rcases Jr h with⟨P,B,hx⟩|h
  ·exact .inl ⟨P,B,one P B.im hx⟩
  ·exact .inr h
theorem BR{s:U}{d2:List Int}{ex:kB}(hs:s.size<=2048)(h1:bL d2=true)(h2:j_ 0 true ex=true)(h3:eH (jd (bX s))):(bL d2&&j_ 0 true ex&& !((eA d2||zd ex)&&decide (0<=bC s)))=true:=by
 rw[h1,h2,Dt hs h3];rfl
theorem N_{s:U}(hs:s.size<=2048)(h:0<=cE s):(∃P:cI,P.Wf∧P.chars=bX s∧P.ok s=true∧P.kind=cE s)∨
 ∃d2 ex im,bX s=46::(d2++(b9 ex++gd im))∧(∀x∈d2,fS x=true)∧(∃c t,d2=c::t∧48<=c∧c<=57)∧ze ex∧(bL d2&&j_ 0 true ex&& !((eA d2||zd ex)&&decide (0<=bC s)))=true∧d_ true ex im=cE s:=by
 unfold cE at h⊢
 by_cases h0:s.size=0
 ·rw[if_pos h0]at h;exact absurd h (by decide)
 ·rw[if_neg h0]at h⊢
  by_cases h1:mE s=true
  ·rw[if_pos h1]
   obtain⟨P,B,p1,p2,p3⟩:=Gr h1
   exact .inl ⟨P,B.wf,B.chars,B.ok hs (fun _=>p3),by unfold cI.kind d_;rw[B.im,p1,p2];rfl⟩
  ·rw[if_neg h1]at h⊢
   by_cases h2:fC s=true
   ·rw[if_pos h2]
    rcases BQ hs h2 with⟨P,B,hk⟩|⟨d2,ex,B⟩
    ·exact .inl ⟨P,B.wf,B.chars,B.ok hs (fun e=>by omega),hk⟩
    ·exact .inr ⟨d2,ex,false,by rw[B.chars];show _=46::(d2++(b9 ex++[]));rw[List.append_nil],B.al,B.fst,B.wf,BR hs B.dg B.ex B.sep,rfl⟩
   ·rw[if_neg h2]at h⊢
    by_cases h3:(s.get! (s.size-1)).toNat=105
    ·rw[if_pos h3]at h⊢
     by_cases h4:s.size-1≠0∧(mE (s.extract 0 (s.size-1))=true∨fC (s.extract 0 (s.size-1))=true∨cC (s.extract 0 (s.size-1)) fL=true)
     ·rw[if_pos h4]
      have hb:bX s=bX (s.extract 0 (s.size-1))++[105]:=by
       rw[ka _ _ _ (by omega),List.drop_zero,Nat.sub_zero]
       have hl:(bX s).length=(s.size-1)+1:=by rw[cS];omega
       have hd:=du (s:=s) (j:=s.size-1) (by omega)
       have Mx:(bX s).drop (s.size-1+1)=[]:=List.drop_eq_nil_of_le (by rw[cS];omega)
       rw[h3,Mx]at hd
       rw[show [(105:Int)]=(bX s).drop (s.size-1) from hd.symm,List.take_append_drop]
      have fin:∀P,Body (bX (s.extract 0 (s.size-1))) P->∃P:cI,P.Wf∧P.chars=bX s∧P.ok s=true∧P.kind=2:=fun P B=>⟨_,B.imag hb hs⟩
      have jt:(s.extract 0 (s.size-1)).size<=2048:=by rw[aA _ _ _ (by omega)];omega
      rcases h4.2 with h5|h5|h5
      ·obtain⟨P,B,_⟩:=Gr h5
       exact .inl (fin P B)
      ·rcases BQ jt h5 with⟨P,B,_⟩|⟨d2,ex,B⟩
       ·exact .inl (fin P B)
       ·have hc:bX s=46::(d2++(b9 ex++gd true)):=by
         rw[hb,B.chars]
         show 46::(d2++b9 ex)++[105]=46::(d2++(b9 ex++[105]))
         simp
        have Dm:eH (jd (bX s)):=by rw[hb];exact BP B.sep (by rw[B.chars];simp)
        exact .inr ⟨d2,ex,true,hc,B.al,B.fst,B.wf,BR hs B.dg B.ex Dm,rfl⟩
      ·rw[ma]at h5
       obtain⟨P,B,_⟩:=zp h5 (iA _) false [] none (fun _=>rfl) (fun x hx=>absurd hx List.not_mem_nil) trivial rfl ⟨48,rfl,by decide⟩
       refine .inl (fin P ?_)
       have e:bX (s.extract 0 (s.size-1))++(fK false++([]++b9 none))=bX (s.extract 0 (s.size-1)):=by show _++[]=_;rw[List.append_nil]
       rw[e]at B
       exact B
     ·rw[if_neg h4]at h;exact absurd h (by decide)
    ·rw[if_neg h3]at h;exact absurd h (by decide)
theorem Gv(w:World)(s:U)(hs:s.size<=8589934592):Calls Tryz.prog 56 #[.string s] w fun e w'=>e= .returned (.int .i64 (cE s))∧Below w.heap.size w w':=by
 have hE:=tN s
 unfold emp at hE
 by_cases h0:s.size=0
 ·rw[decide_eq_true h0]at hE
  have hf:cE s= -1:=if_pos h0
  rw[hf]
  go_enter Tryz.func56,Tryz.ntmps56
  go_wp2_with fail
  all_goals exact⟨rfl,_,bK (k:=2) (by kernel_rfl) rfl,rfl,Below.refl _ _⟩
 rw[decide_eq_false h0]at hE
 have hI:=fun w=>zl w s hs
 have hF:=fun w=>tR w s hs
 have hf:cE s=_:=if_neg h0
 rw[hf]
 clear hf
 cases hi:mE s with
 |true=>
  rw[hi]at hI
  rw[if_pos rfl]
  go_enter Tryz.func56,Tryz.ntmps56
  go_wp2_with (go_at_call 78;refine(hI _).mono ?_;rintro en w1 ⟨rfl,oA⟩)
  all_goals exact⟨rfl,_,bK (k:=2) (by kernel_rfl) rfl,rfl,oA⟩
 |false=>
  rw[hi]at hI
  rw[if_neg (by simp)]
  cases Vi:fC s with
  |true=>
   rw[Vi]at hF
   rw[if_pos rfl]
   go_enter Tryz.func56,Tryz.ntmps56
   go_wp2_with (first
    |(go_at_call 79;refine(hF _).mono ?_;rintro en w2 ⟨rfl,nF⟩)
    |(go_at_call 78;refine(hI _).mono ?_;rintro en w1 ⟨rfl,oA⟩))
   all_goals exact⟨rfl,_,bK (k:=2) (by kernel_rfl) rfl,rfl,dC oA nF⟩
  |false=>
   rw[Vi]at hF
   rw[if_neg (by simp)]
   have k0:0<s.size:=by omega
   have k1:(0:Int)<(s.size:Int):=by omega
   have kw:IntKind.i64.wrap ((s.size:Int)-1)=((s.size-1:Nat):Int):=by rw[show(s.size:Int)-1=((s.size-1:Nat):Int)by omega];exact aG (by omega) (by omega)
   have k2:(0:Int)<=((s.size-1:Nat):Int):=by omega
   have k3:((s.size-1:Nat):Int)<(s.size:Int):=by omega
   have k4:s.size-1<s.size:=by omega
   have k5:((s.size-1:Nat):Int)<=(s.size:Int):=by omega
   rw[dP s (s.size-1) k4]
   have eJ:(s.extract 0 (s.size-1)).size=s.size-1:=by rw[ByteArray.size_extract];omega
   have hE2:=tN (s.extract 0 (s.size-1))
   unfold emp at hE2
   rw[eJ]at hE2
   have Ux:=fun w=>zl w (s.extract 0 (s.size-1)) (by omega)
   have hF2:=fun w=>tR w (s.extract 0 (s.size-1)) (by omega)
   have Di:=fun w=>je w (s.extract 0 (s.size-1)) fL (by omega) (by decide)
   clear eJ
   generalize s.size-1=j at kw k2 k3 k4 k5 hE2 Ux hF2 Di⊢
   generalize mE (s.extract 0 j)=b1 at Ux⊢
   generalize fC (s.extract 0 j)=b2 at hF2⊢
   generalize cC (s.extract 0 j) fL=b3 at Di⊢
   unfold fL at Di
   by_cases hc:s[j].toNat=105
   ·have e1:(((s[j].toNat:Nat):Int)==105)=true:=by simp[hc]
    rw[if_pos hc]
    by_cases hj:j=0
    ·rw[decide_eq_true hj]at hE2
     rw[if_neg (fun h=>h.1 hj)]
     go_enter Tryz.func56,Tryz.ntmps56
     go_wp2_with (first
      |(go_at_call 79;refine(hF _).mono ?_;rintro en w2 ⟨rfl,nF⟩)
      |(go_at_call 78;refine(hI _).mono ?_;rintro en w1 ⟨rfl,oA⟩))
     all_goals exact⟨rfl,_,bK (k:=2) (by kernel_rfl) rfl,rfl,dC oA nF⟩
    ·rw[decide_eq_false hj]at hE2
     cases b1 with
     |true=>
      rw[if_pos ⟨hj,.inl rfl⟩]
      go_enter Tryz.func56,Tryz.ntmps56
      go_wp2_with (first
       |(go_at_call 78;have hh:=nF;refine(Ux _).mono ?_;rintro en w3 ⟨rfl,AO⟩)
       |(go_at_call 79;refine(hF _).mono ?_;rintro en w2 ⟨rfl,nF⟩)
       |(go_at_call 78;refine(hI _).mono ?_;rintro en w1 ⟨rfl,oA⟩))
      all_goals exact⟨rfl,_,bK (k:=2) (by kernel_rfl) rfl,rfl,dC (dC oA nF) AO⟩
     |false=>
      cases b2 with
      |true=>
       rw[if_pos ⟨hj,.inr (.inl rfl)⟩]
       go_enter Tryz.func56,Tryz.ntmps56
       go_wp2_with (first
        |(go_at_call 79;have hh:=AO;refine(hF2 _).mono ?_;rintro en w4 ⟨rfl,hB4⟩)
        |(go_at_call 78;have hh:=nF;refine(Ux _).mono ?_;rintro en w3 ⟨rfl,AO⟩)
        |(go_at_call 79;refine(hF _).mono ?_;rintro en w2 ⟨rfl,nF⟩)
        |(go_at_call 78;refine(hI _).mono ?_;rintro en w1 ⟨rfl,oA⟩))
       all_goals exact⟨rfl,_,bK (k:=2) (by kernel_rfl) rfl,rfl,dC (dC (dC oA nF) AO) hB4⟩
      |false=>
       cases b3 with
       |true=>
        rw[if_pos ⟨hj,.inr (.inr rfl)⟩]
        go_enter Tryz.func56,Tryz.ntmps56
        go_wp2_with (first
         |(go_at_call 80;refine(Di _).mono ?_;rintro en w5 ⟨rfl,rfl⟩)
         |(go_at_call 79;have hh:=AO;refine(hF2 _).mono ?_;rintro en w4 ⟨rfl,hB4⟩)
         |(go_at_call 78;have hh:=nF;refine(Ux _).mono ?_;rintro en w3 ⟨rfl,AO⟩)
         |(go_at_call 79;refine(hF _).mono ?_;rintro en w2 ⟨rfl,nF⟩)
         |(go_at_call 78;refine(hI _).mono ?_;rintro en w1 ⟨rfl,oA⟩))
        all_goals exact⟨rfl,_,bK (k:=2) (by kernel_rfl) rfl,rfl,dC (dC (dC oA nF) AO) hB4⟩
       |false=>
        rw[if_neg (fun h=>by simp at h)]
        go_enter Tryz.func56,Tryz.ntmps56
        go_wp2_with (first
         |(go_at_call 80;refine(Di _).mono ?_;rintro en w5 ⟨rfl,rfl⟩)
         |(go_at_call 79;have hh:=AO;refine(hF2 _).mono ?_;rintro en w4 ⟨rfl,hB4⟩)
         |(go_at_call 78;have hh:=nF;refine(Ux _).mono ?_;rintro en w3 ⟨rfl,AO⟩)
         |(go_at_call 79;refine(hF _).mono ?_;rintro en w2 ⟨rfl,nF⟩)
         |(go_at_call 78;refine(hI _).mono ?_;rintro en w1 ⟨rfl,oA⟩))
        all_goals exact⟨rfl,_,bK (k:=2) (by kernel_rfl) rfl,rfl,dC (dC (dC oA nF) AO) hB4⟩
   ·have e1:(((s[j].toNat:Nat):Int)==105)=false:=by simp;omega
    rw[if_neg hc]
    go_enter Tryz.func56,Tryz.ntmps56
    go_wp2_with (first
     |(go_at_call 79;refine(hF _).mono ?_;rintro en w2 ⟨rfl,nF⟩)
     |(go_at_call 78;refine(hI _).mono ?_;rintro en w1 ⟨rfl,oA⟩))
    all_goals exact⟨rfl,_,bK (k:=2) (by kernel_rfl) rfl,rfl,dC oA nF⟩
end
end Sc
end Go.Proofs.YtogkcphobhhbdaaGreatDoor
