/- The scanner of the program told as plain functions, part 13: texts joined and shortened by a program (wip/tools/mini.py). -/
import Derived.Test.YtogkcphobhhbdaaGreatDoorYc12
set_option linter.unusedVariables false
set_option linter.unusedSimpArgs false
set_option maxHeartbeats 32000000
namespace Go.Proofs.YtogkcphobhhbdaaGreatDoor
open Go Go.RowKit Go.Lib
namespace Sc
open Ev
set_option maxRecDepth 100000
noncomputable section
def cJ(b:U)(x:UInt8):Bool:=decide (0<=Lib.indexByte b.data.toList x)
def rv(s b:U):Nat->Nat->Bool
 |0,_=>true
 |n+1,i=>if i<s.size then(if cJ b (s.get! i)=true then rv s b n (i+1)else false)else true
structure SO(v0 v1 vi:Value)(a:Act):Prop where
 defers:a.defers=[]
 size:a.tmps.size=20
 s0:a.tmps[0]? =some v0
 s1:a.tmps[1]? =some v1
 s5:a.tmps[5]? =some vi
theorem SO.lit{v0 v1 vi:Value}{a:Act}(h:SO v0 v1 vi a):∃x:Nat->Value,a={tmps:=#[v0,v1,x 2,x 3,x 4,vi,x 6,x 7,x 8,x 9,x 10,x 11,x 12,x 13,x 14,x 15,x 16,x 17,x 18,x 19],defers:=[]}:=by
 refine⟨fun i=>a.tmps.getD i undef,?_⟩
 obtain⟨t,d⟩:=a
 obtain⟨h1,h2,k0,k1,k5⟩:=h
 simp only at h1 h2 k0 k1 k5
 subst h1
 have e0:t.getD 0 undef=v0:=by rw[Array.getD_eq_getD_getElem?,k0];rfl
 have e1:t.getD 1 undef=v1:=by rw[Array.getD_eq_getD_getElem?,k1];rfl
 have e5:t.getD 5 undef=vi:=by rw[Array.getD_eq_getD_getElem?,k5];rfl
 have ht:=gx 20 t h2
 rw[←e0,←e1,←e5]
 exact congrArg (fun t=>({tmps:=t,defers:=[]}:Act)) ht
abbrev og:Code:=av Tryz.f81
abbrev uN:Code:=a_ (aX og 0)
theorem dP(s:U)(i:Nat)(h:i<s.size):s.get! i=s[i]:=by
 simp[ByteArray.get!,getElem!_pos,h]
 rfl
theorem Su{w:World}{s b:U}{i:Nat}(hs:s.size<=8589934592)(hi:i<s.size)(a:Act)(hz:SO (.string s) (.string b) (.int .i64 i) a)(Q:Exit->Act->World->Prop)
 (h1:cJ b (s.get! i)=true->∀a',SO (.string s) (.string b) (.int .i64 (i+1:Nat)) a'->Q .normal a' w)
 (h2:cJ b (s.get! i)=false->∀a',a'.defers=[]->a'.tmps[4]? =some (.bool false)->Q .ret a' w):uN.wp Tryz.prog Q a w:=by
 obtain⟨x,rfl⟩:=hz.lit
 clear hz
 have FH:(0:Int)<=(i:Int):=by omega
 have hi1:(i:Int)<(s.size:Int):=by omega
 have hI:=fun c=>cX w b c
 simp only[uN,og,av,Tryz.f81,Option.getD,aX,a_,cond,Nat.beq]
 go_wp2_with (go_at_call 22;refine(hI _).mono ?_;rintro en w2 ⟨rfl,rfl⟩)
 ·rename_i h
  exact h2 (by rw[dP s i hi];unfold cJ;simp;omega) _ rfl rfl
 ·rename_i h
  exact h1 (by rw[dP s i hi];unfold cJ;simp;omega) _ ⟨rfl,rfl,rfl,rfl,rfl⟩
theorem ab8{w:World}{s b:U}(a:Act)(hz:SO (.string s) (.string b) (.int .i64 s.size) a)(Q:Exit->Act->World->Prop)
 (hQ:∀a',SO (.string s) (.string b) (.int .i64 s.size) a'->Q (.exit 0) a' w):uN.wp Tryz.prog Q a w:=by
 obtain⟨x,rfl⟩:=hz.lit
 clear hz
 simp only[uN,og,av,Tryz.f81,Option.getD,aX,a_,cond,Nat.beq]
 have bz:¬((s.size:Int)<(s.size:Int)):=by omega
 go_wp2_with fail
 exact⟨rfl,rfl,rfl,rfl,rfl⟩
theorem KX{w:World}{s b:U}(hs:s.size<=8589934592)(Q:Exit->Act->World->Prop):∀(d i:Nat) (a:Act),i+d=s.size->SO (.string s) (.string b) (.int .i64 i) a->
 (rv s b d i=true->∀a,SO (.string s) (.string b) (.int .i64 s.size) a->Q .normal a w)->
 (rv s b d i=false->∀a,a.defers=[]->a.tmps[4]? =some (.bool false)->Q .ret a w)->
 Code.rounds Tryz.prog uN (Exit.inBlock 0 Q) (d+1) a w
 |0,i,a,hi,hz,h1,h2=>by
  have hi:i=s.size:=by omega
  subst hi
  rw[rounds_succ]
  exact ab8 a hz _ (fun a' z'=>h1 rfl a' z')
 |d+1,i,a,hi,hz,h1,h2=>by
  rw[rounds_succ]
  simp only[rv,if_pos (show i<s.size by omega)]at h1 h2
  refine Su hs (by omega) a hz _ (fun hb a' z'=> ?_) (fun hb a' d0 d4=> ?_)
  ·rw[if_pos hb]at h1 h2
   exact KX hs Q d (i+1) a' (by omega) z' h1 h2
  ·rw[if_neg (by rw[hb];simp)]at h2
   exact h2 rfl a' d0 d4
abbrev aoP(n:Nat):Code:=bQ (ah n og)
theorem Xn:(Tryz.f81).body=some (.seq (aoP 0) (.seq (.seq (bQ (aoP 1)) (.block 0 (.loop uN))) (ah 2 og))):=by kernel_rfl
theorem Sv{w:World}{s b:U}(B C:Code)(Q:Exit->Act->World->Prop)
 (hQ:∀a,SO (.string s) (.string b) (.int .i64 (0:Nat)) a->B.wp Tryz.prog (Exit.then (fun a w=>C.wp Tryz.prog Q a w) Q) a w):
 (Code.seq (aoP 0) (.seq (.seq (bQ (aoP 1)) B) C)).wp Tryz.prog Q {tmps:=#[.string s,.string b]++Array.replicate 18 undef,defers:=[]} w:=by
 simp only[aoP,bQ,og,av,Tryz.f81,Option.getD,ah,cO,Option.map,Array.replicate_succ,Array.replicate_zero,List.push_toArray,List.append_toArray,List.nil_append,List.cons_append]
 go_wp2_with fail
 rename_i K hK
 refine Code.wp_mono (fun e a w h=> ?_) (hQ _ ⟨rfl,rfl,rfl,rfl,rfl⟩)
 cases e<;>first|exact hK _ _ h|exact h
theorem Xo{w:World}{s b:U}{v:Value}(a:Act)(hz:SO (.string s) (.string b) v a)(Q:Exit->Act->World->Prop)
 (hQ:∀a',a'.defers=[]->a'.tmps[4]? =some (.bool (!s.toList.isEmpty))->Q .ret a' w):(ah 2 og).wp Tryz.prog Q a w:=by
 obtain⟨x,rfl⟩:=hz.lit
 clear hz
 simp only[og,av,Tryz.f81,Option.getD,ah,cO,Option.map]
 go_wp2_with fail
 exact hQ _ rfl rfl
def gO(s b:U):Bool:=rv s b s.size 0&& !s.toList.isEmpty
theorem ry(w:World)(s b:U)(hs:s.size<=8589934592):Calls Tryz.prog 81 #[.string s,.string b] w fun e w'=>e= .returned (.bool (gO s b))∧w'=w:=by
 refine calls_of_wp Tryz.func81 Xn ?_
 have yV:(Tryz.f81).ntmps-(#[.string s,.string b]:Array Value).size=18:=by kernel_rfl
 rw[yV]
 refine Sv _ _ _ (fun a z=> ?_)
 refine wp_block (wp_loop_rounds (s.size+1) ?_)
 refine KX hs _ s.size 0 a (by omega) z (fun hf a2 z2=> ?_) (fun hf a2 d0 d4=> ?_)
 ·show(ah 2 og).wp _ _ a2 w
  exact Xo a2 z2 _ (fun a3 d0 d4=>⟨d0,_,bK (k:=4) (by kernel_rfl) d4,by unfold gO;rw[hf];rfl,rfl⟩)
 ·exact⟨d0,_,bK (k:=4) (by kernel_rfl) d4,by unfold gO;rw[hf];rfl,rfl⟩
def uO:U:=⟨#[48,49,50,51,52,53,54,55,56,57,97,98,99,100,101,102]⟩
def F_:U:=⟨#[48,49,50,51,52,53,54,55,56,57,65,66,67,68,69,70]⟩
def rz(x:UInt8):Int:=if Lib.indexByte uO.data.toList x<0 then Lib.indexByte F_.data.toList x else Lib.indexByte uO.data.toList x
def uP(s:U)(b:Int):Nat->Nat->Int->Int
 |0,_,acc=>acc
 |n+1,i,acc=>uP s b n (i+1) (acc*b+rz (s.get! i))
structure UD(v0 v1 va vi:Value)(a:Act):Prop where
 defers:a.defers=[]
 size:a.tmps.size=30
 s0:a.tmps[0]? =some v0
 s1:a.tmps[1]? =some v1
 s5:a.tmps[5]? =some va
 s6:a.tmps[6]? =some vi
theorem UD.lit{v0 v1 va vi:Value}{a:Act}(h:UD v0 v1 va vi a):∃x:Nat->Value,a={tmps:=#[v0,v1,x 2,x 3,x 4,va,vi,x 7,x 8,x 9,x 10,x 11,x 12,x 13,x 14,x 15,x 16,x 17,x 18,x 19,x 20,x 21,x 22,x 23,x 24,x 25,x 26,x 27,x 28,x 29],defers:=[]}:=by
 refine⟨fun i=>a.tmps.getD i undef,?_⟩
 obtain⟨t,d⟩:=a
 obtain⟨h1,h2,k0,k1,k5,k6⟩:=h
 simp only at h1 h2 k0 k1 k5 k6
 subst h1
 have e0:t.getD 0 undef=v0:=by rw[Array.getD_eq_getD_getElem?,k0];rfl
 have e1:t.getD 1 undef=v1:=by rw[Array.getD_eq_getD_getElem?,k1];rfl
 have e5:t.getD 5 undef=va:=by rw[Array.getD_eq_getD_getElem?,k5];rfl
 have e6:t.getD 6 undef=vi:=by rw[Array.getD_eq_getD_getElem?,k6];rfl
 have ht:=gx 30 t h2
 rw[←e0,←e1,←e5,←e6]
 exact congrArg (fun t=>({tmps:=t,defers:=[]}:Act)) ht
abbrev mD:Code:=av Tryz.f82
abbrev rA:Code:=a_ (aX mD 0)
theorem Sw{w:World}{s:U}{i:Nat}{b acc:Int}(hs:s.size<=8589934592)(hi:i<s.size)(hb:0<=b∧b<=16)(ah8:0<=acc∧acc*b<=4294967296)(hd:0<=rz (s.get! i)∧rz (s.get! i)<=15)
 (a:Act)(hz:UD (.string s) (.int .i64 b) (.int .i64 acc) (.int .i64 i) a)(Q:Exit->Act->World->Prop)
 (h1:∀a',UD (.string s) (.int .i64 b) (.int .i64 (acc*b+rz (s.get! i))) (.int .i64 (i+1:Nat)) a'->Q .normal a' w):rA.wp Tryz.prog Q a w:=by
 obtain⟨x,rfl⟩:=hz.lit
 clear hz
 have FH:(0:Int)<=(i:Int):=by omega
 have hi1:(i:Int)<(s.size:Int):=by omega
 have UA:0<=acc*b:=Int.mul_nonneg ah8.1 hb.1
 have hm:IntKind.i64.wrap (acc*b)=acc*b:=aG (by omega) (by omega)
 rw[dP s i hi]at hd h1
 have hI:=fun c=>cX w uO c
 have hJ:=fun c=>cX w F_ c
 have e1:uO=⟨#[48,49,50,51,52,53,54,55,56,57,97,98,99,100,101,102]⟩:=rfl
 have e2:F_=⟨#[48,49,50,51,52,53,54,55,56,57,65,66,67,68,69,70]⟩:=rfl
 have hw:∀d,0<=d->d<=15->IntKind.i64.wrap (acc*b+d)=acc*b+d:=fun d h0 h1=>aG (by omega) (by omega)
 unfold rz at hd h1
 generalize OV:Lib.indexByte uO.data.toList s[i]=lo at hd h1
 generalize hup:Lib.indexByte F_.data.toList s[i]=up at hd h1
 have gy:∀w,Calls Tryz.prog 22 #[.string ⟨#[48,49,50,51,52,53,54,55,56,57,97,98,99,100,101,102]⟩,.int .u8 (s[i].toNat:Nat)] w fun e w'=>e= .returned (.int .i64 lo)∧w'=w:=fun w=>by
  have:=cX w uO (s[i].toNat:Nat)
  rw[show((s[i].toNat:Nat):Int).toNat.toUInt8=s[i]by simp,OV]at this
  exact this
 have hJ':∀w,Calls Tryz.prog 22 #[.string ⟨#[48,49,50,51,52,53,54,55,56,57,65,66,67,68,69,70]⟩,.int .u8 (s[i].toNat:Nat)] w fun e w'=>e= .returned (.int .i64 up)∧w'=w:=fun w=>by
  have:=cX w F_ (s[i].toNat:Nat)
  rw[show((s[i].toNat:Nat):Int).toNat.toUInt8=s[i]by simp,hup]at this
  exact this
 clear hI hJ e1 e2 OV hup
 by_cases hl:lo<0
 ·rw[if_pos hl]at hd h1
  have hwd:=hw up hd.1 hd.2
  simp only[rA,mD,av,Tryz.f82,Option.getD,aX,a_,cond,Nat.beq]
  go_wp2_with (first
   |(go_at_call 22;refine(gy _).mono ?_;rintro en w2 ⟨rfl,rfl⟩)
   |(go_at_call 22;refine(hJ' _).mono ?_;rintro en w2 ⟨rfl,rfl⟩))
  exact⟨rfl,rfl,rfl,rfl,rfl,rfl⟩
 ·rw[if_neg hl]at hd h1
  have hwd:=hw lo hd.1 hd.2
  simp only[rA,mD,av,Tryz.f82,Option.getD,aX,a_,cond,Nat.beq]
  go_wp2_with (go_at_call 22;refine(gy _).mono ?_;rintro en w2 ⟨rfl,rfl⟩)
  exact⟨rfl,rfl,rfl,rfl,rfl,rfl⟩
theorem ab9{w:World}{s:U}{v1 va:Value}(a:Act)(hz:UD (.string s) v1 va (.int .i64 s.size) a)(Q:Exit->Act->World->Prop)
 (hQ:∀a',UD (.string s) v1 va (.int .i64 s.size) a'->Q (.exit 0) a' w):rA.wp Tryz.prog Q a w:=by
 obtain⟨x,rfl⟩:=hz.lit
 clear hz
 simp only[rA,mD,av,Tryz.f82,Option.getD,aX,a_,cond,Nat.beq]
 have bz:¬((s.size:Int)<(s.size:Int)):=by omega
 go_wp2_with fail
 exact⟨rfl,rfl,rfl,rfl,rfl,rfl⟩
theorem KY{w:World}{s:U}{b:Int}(hs:s.size<=8)(hb:0<=b∧b<=16)(hd:∀j,j<s.size->0<=rz (s.get! j)∧rz (s.get! j)<=15)(Q:Exit->Act->World->Prop):
 ∀(d i:Nat) (acc:Int) (a:Act),i+d=s.size->0<=acc->acc+1<=16^i->UD (.string s) (.int .i64 b) (.int .i64 acc) (.int .i64 i) a->
  (∀a,UD (.string s) (.int .i64 b) (.int .i64 (uP s b d i acc)) (.int .i64 s.size) a->Q .normal a w)->
  Code.rounds Tryz.prog rA (Exit.inBlock 0 Q) (d+1) a w
 |0,i,acc,a,hi,h0,ha,hz,h1=>by
  have hi:i=s.size:=by omega
  subst hi
  rw[rounds_succ]
  exact ab9 a hz _ (fun a' z'=>h1 a' z')
 |d+1,i,acc,a,hi,h0,ha,hz,h1=>by
  rw[rounds_succ]
  have bz:i<s.size:=by omega
  obtain⟨d0,d1⟩:=hd i bz
  have hp:(16:Int)^(i+1)=16^i*16:=Int.pow_succ ..
  have hp8:(16:Int)^(i+1)<=4294967296:=by
   have h2:i+1<=8:=by omega
   have:∀k:Nat,k<=8->(16:Int)^k<=4294967296:=by decide
   exact this _ h2
  have hm:acc*b<=acc*16:=Int.mul_le_mul_of_nonneg_left hb.2 h0
  have UA:0<=acc*b:=Int.mul_nonneg h0 hb.1
  refine Sw (by omega) bz hb ⟨h0,by omega⟩ ⟨d0,d1⟩ a hz _ (fun a' z'=> ?_)
  exact KY hs hb hd Q d (i+1) _ a' (by omega) (by omega) (by omega) z' h1
abbrev voP(n:Nat):Code:=bQ (ah n mD)
theorem Xp:(Tryz.f82).body=some (.seq (voP 0) (.seq (voP 1) (.seq (.seq (bQ (voP 2)) (.block 0 (.loop rA))) (ah 3 mD)))):=by kernel_rfl
theorem Sx{w:World}{s:U}{b:Int}(B C:Code)(Q:Exit->Act->World->Prop)
 (hQ:∀a,UD (.string s) (.int .i64 b) (.int .i64 0) (.int .i64 (0:Nat)) a->B.wp Tryz.prog (Exit.then (fun a w=>C.wp Tryz.prog Q a w) Q) a w):
 (Code.seq (voP 0) (.seq (voP 1) (.seq (.seq (bQ (voP 2)) B) C))).wp Tryz.prog Q {tmps:=#[.string s,.int .i64 b]++Array.replicate 28 undef,defers:=[]} w:=by
 simp only[voP,bQ,mD,av,Tryz.f82,Option.getD,ah,cO,Option.map,Array.replicate_succ,Array.replicate_zero,List.push_toArray,List.append_toArray,List.nil_append,List.cons_append]
 go_wp2_with fail
 rename_i K hK
 refine Code.wp_mono (fun e a w h=> ?_) (hQ _ ⟨rfl,rfl,rfl,rfl,rfl,rfl⟩)
 cases e<;>first|exact hK _ _ h|exact h
theorem Xq{w:World}{v0 v1 vi:Value}{x:Int}(a:Act)(hz:UD v0 v1 (.int .i64 x) vi a)(Q:Exit->Act->World->Prop)
 (hQ:∀a',a'.defers=[]->a'.tmps[4]? =some (.int .i64 x)->Q .ret a' w):(ah 3 mD).wp Tryz.prog Q a w:=by
 obtain⟨x,rfl⟩:=hz.lit
 clear hz
 simp only[mD,av,Tryz.f82,Option.getD,ah,cO,Option.map]
 go_wp2_with fail
 exact hQ _ rfl rfl
theorem tL(w:World)(s:U)(b:Int)(hs:s.size<=8)(hb:0<=b∧b<=16)(hd:∀j,j<s.size->0<=rz (s.get! j)∧rz (s.get! j)<=15):
 Calls Tryz.prog 82 #[.string s,.int .i64 b] w fun e w'=>e= .returned (.int .i64 (uP s b s.size 0 0))∧w'=w:=by
 refine calls_of_wp Tryz.func82 Xp ?_
 have yV:(Tryz.f82).ntmps-(#[.string s,.int .i64 b]:Array Value).size=28:=by kernel_rfl
 rw[yV]
 refine Sx _ _ _ (fun a z=> ?_)
 refine wp_block (wp_loop_rounds (s.size+1) ?_)
 refine KY hs hb hd _ s.size 0 0 a (by omega) (by decide) (by decide) z (fun a2 z2=> ?_)
 show(ah 3 mD).wp _ _ a2 w
 exact Xq a2 z2 _ (fun a3 d0 d4=>⟨d0,_,bK (k:=4) (by kernel_rfl) d4,rfl,rfl⟩)
def g_:U:=⟨#[48,49,50,51,52,53,54,55]⟩
def fT:U:=⟨#[48,49,50,51,52,53,54,55,56,57,97,98,99,100,101,102,65,66,67,68,69,70]⟩
def dn(s:U)(size base digits:Nat):Int:=
 if s.size<size then 0
 else if gO (s.extract digits size) (if base=8 then g_ else fT)=false then 0
 else if(base=8∧uP (s.extract digits size) base (s.extract digits size).size 0 0>255)∨(6<=size∧dY (uP (s.extract digits size) base (s.extract digits size).size 0 0))then 0
 else size
structure SX5(v0 v1 vs vb vd:Value)(a:Act):Prop where
 defers:a.defers=[]
 size:a.tmps.size=99
 s0:a.tmps[0]? =some v0
 s1:a.tmps[1]? =some v1
 s5:a.tmps[5]? =some vs
 s6:a.tmps[6]? =some vb
 s7:a.tmps[7]? =some vd
theorem SX5.lit{v0 v1 vs vb vd:Value}{a:Act}(h:SX5 v0 v1 vs vb vd a):∃x:Nat->Value,a={tmps:=#[v0,v1,x 2,x 3,x 4,vs,vb,vd,x 8,x 9,x 10,x 11,x 12,x 13,x 14,x 15,x 16,x 17,x 18,x 19,x 20,x 21,x 22,x 23,x 24,x 25,x 26,x 27,x 28,x 29,x 30,x 31,x 32,x 33,x 34,x 35,x 36,x 37,x 38,x 39,x 40,x 41,x 42,x 43,x 44,x 45,x 46,x 47,x 48,x 49,x 50,x 51,x 52,x 53,x 54,x 55,x 56,x 57,x 58,x 59,x 60,x 61,x 62,x 63,x 64,x 65,x 66,x 67,x 68,x 69,x 70,x 71,x 72,x 73,x 74,x 75,x 76,x 77,x 78,x 79,x 80,x 81,x 82,x 83,x 84,x 85,x 86,x 87,x 88,x 89,x 90,x 91,x 92,x 93,x 94,x 95,x 96,x 97,x 98],defers:=[]}:=by
 refine⟨fun i=>a.tmps.getD i undef,?_⟩
 obtain⟨t,d⟩:=a
 obtain⟨h1,h2,k0,k1,k5,k6,k7⟩:=h
 simp only at h1 h2 k0 k1 k5 k6 k7
 subst h1
 have e0:t.getD 0 undef=v0:=by rw[Array.getD_eq_getD_getElem?,k0];rfl
 have e1:t.getD 1 undef=v1:=by rw[Array.getD_eq_getD_getElem?,k1];rfl
 have e5:t.getD 5 undef=vs:=by rw[Array.getD_eq_getD_getElem?,k5];rfl
 have e6:t.getD 6 undef=vb:=by rw[Array.getD_eq_getD_getElem?,k6];rfl
 have e7:t.getD 7 undef=vd:=by rw[Array.getD_eq_getD_getElem?,k7];rfl
 have ht:=gx 99 t h2
 rw[←e0,←e1,←e5,←e6,←e7]
 exact congrArg (fun t=>({tmps:=t,defers:=[]}:Act)) ht
abbrev jF:Code:=av Tryz.f57
abbrev Xr(n:Nat):Code:=bQ (ah n jF)
theorem Xs:(Tryz.f57).body=some (.seq (Xr 0) (.seq (Xr 1) (.seq (Xr 2) (.seq (Xr 3) (ah 4 jF))))):=by kernel_rfl
theorem Sy:((List.range 256).all fun n=> !(decide (0<=Lib.indexByte fT.data.toList (UInt8.ofNat n)))||(decide (0<=rz (UInt8.ofNat n))&&decide (rz (UInt8.ofNat n)<=15)))=true:=by kernel_rfl
theorem Xt:((List.range 256).all fun n=> !(decide (0<=Lib.indexByte g_.data.toList (UInt8.ofNat n)))||decide (0<=Lib.indexByte fT.data.toList (UInt8.ofNat n)))=true:=by kernel_rfl
theorem Xu{x:UInt8}(h:cJ g_ x=true):cJ fT x=true:=by
 have:=List.all_eq_true.1 Xt x.toNat (List.mem_range.2 x.toNat_lt)
 rw[UInt8.ofNat_toNat]at this
 unfold cJ at h⊢
 rw[h]at this
 simpa using this
theorem KZ{x:UInt8}(h:cJ fT x=true):0<=rz x∧rz x<=15:=by
 have:=List.all_eq_true.1 Sy x.toNat (List.mem_range.2 x.toNat_lt)
 rw[UInt8.ofNat_toNat]at this
 unfold cJ at h
 rw[h]at this
 simpa using this
theorem Ga{s b:U}:∀(n i:Nat),rv s b n i=true->∀j,i<=j->j<i+n->j<s.size->cJ b (s.get! j)=true
 |0,i,_,j,h1,h2,_=>by omega
 |n+1,i,h,j,h1,h2,h3=>by
  simp only[rv,if_pos (show i<s.size by omega)]at h
  by_cases hb:cJ b (s.get! i)=true
  ·rw[if_pos hb]at h
   by_cases hj:j=i
   ·subst hj;exact hb
   ·exact Ga n (i+1) h j (by omega) (by omega) h3
  ·rw[if_neg hb]at h;cases h
theorem BJ{s b:U}(h:gO s b=true):∀j,j<s.size->cJ b (s.get! j)=true:=by
 unfold gO at h
 simp only[Bool.and_eq_true]at h
 exact fun j hj=>Ga _ _ h.1 j (Nat.zero_le _) (by omega) hj
theorem Gb{w:World}{s:U}{q:Int}{size:Nat}{vb vd:Value}(h:s.size<size)(a:Act)(hz:SX5 (.string s) (.int .u8 q) (.int .i64 size) vb vd a)(Q:Exit->Act->World->Prop)
 (hQ:∀a',a'.defers=[]->a'.tmps[4]? =some (.int .i64 0)->Q .ret a' w):(ah 4 jF).wp Tryz.prog Q a w:=by
 obtain⟨x,rfl⟩:=hz.lit
 clear hz
 have h1:(s.size:Int)<(size:Int):=by omega
 have h2:((size:Int)==0)=false:=by simp;omega
 simp only[jF,av,Tryz.f57,Option.getD,ah,cO,Option.map]
 go_wp2_with fail
 all_goals exact hQ _ rfl rfl
theorem Xv{w:World}{s:U}{q:Int}{vb vd:Value}(a:Act)(hz:SX5 (.string s) (.int .u8 q) (.int .i64 0) vb vd a)(Q:Exit->Act->World->Prop)
 (hQ:∀a',a'.defers=[]->a'.tmps[4]? =some (.int .i64 0)->Q .ret a' w):(ah 4 jF).wp Tryz.prog Q a w:=by
 obtain⟨x,rfl⟩:=hz.lit
 clear hz
 simp only[jF,av,Tryz.f57,Option.getD,ah,cO,Option.map]
 go_wp2_with fail
 all_goals exact hQ _ rfl rfl
theorem Sz{w:World}{s:U}{q:Int}(hs:4<=s.size)(FI:s.size<=8589934592)(a:Act)(hz:SX5 (.string s) (.int .u8 q) (.int .i64 4) (.int .i64 8) (.int .i64 1) a)(Q:Exit->Act->World->Prop)
 (hQ:∀a',a'.defers=[]->a'.tmps[4]? =some (.int .i64 (dn s 4 8 1))->Q .ret a' w):(ah 4 jF).wp Tryz.prog Q a w:=by
 obtain⟨x,rfl⟩:=hz.lit
 clear hz
 have h1:¬(s.size:Int)<4:=by omega
 have h2:(4:Int)<=(s.size:Int):=by omega
 have hA:=fun w=>ry w (s.extract 1 4) g_ (by rw[ByteArray.size_extract];omega)
 unfold dn at hQ
 rw[if_neg (by omega)]at hQ
 simp only[if_true]at hQ
 unfold g_ at hA
 cases hb:gO (s.extract 1 4) g_ with
 |false=>
  rw[hb]at hQ
  unfold g_ at hb
  rw[hb]at hA
  simp only[jF,av,Tryz.f57,Option.getD,ah,cO,Option.map]
  go_wp2_with (go_at_call 81;refine(hA _).mono ?_;rintro en w2 ⟨rfl,rfl⟩)
  all_goals exact hQ _ rfl rfl
 |true=>
  rw[hb]at hQ
  have hg:=BJ hb
  have hV:=fun w=>tL w (s.extract 1 4) 8 (by rw[ByteArray.size_extract];omega) (by decide) (fun j hj=>KZ (Xu (hg j hj)))
  unfold g_ at hb
  rw[hb]at hA
  simp only[Bool.true_eq_false,if_false,true_and,show¬6<=4 by decide,false_and,or_false]at hQ
  have hV':∀w,Calls Tryz.prog 82 #[.string (s.extract 1 4),.int .i64 8] w fun e w'=>e= .returned (.int .i64 (uP (s.extract 1 4) (8:Nat) (s.extract 1 4).size 0 0))∧w'=w:=hV
  generalize uP (s.extract 1 4) (8:Nat) (s.extract 1 4).size 0 0=v at hV' hQ
  simp only[jF,av,Tryz.f57,Option.getD,ah,cO,Option.map]
  go_wp2_with (first
   |(go_at_call 81;refine(hA _).mono ?_;rintro en w2 ⟨rfl,rfl⟩)
   |(go_at_call 82;refine(hV' _).mono ?_;rintro en w2 ⟨rfl,rfl⟩))
  all_goals first
   |(rw[if_neg (by omega)]at hQ;exact hQ _ rfl rfl)
   |(rw[if_pos (by omega)]at hQ;exact hQ _ rfl rfl)
   |trace_state
theorem N4{w:World}{s:U}{q:Int}{size:Nat}(eJ:size=4∨size=6∨size=10)(hs:size<=s.size)(FI:s.size<=8589934592)(a:Act)(hz:SX5 (.string s) (.int .u8 q) (.int .i64 size) (.int .i64 16) (.int .i64 2) a)(Q:Exit->Act->World->Prop)
 (hQ:∀a',a'.defers=[]->a'.tmps[4]? =some (.int .i64 (dn s size 16 2))->Q .ret a' w):(ah 4 jF).wp Tryz.prog Q a w:=by
 obtain⟨x,rfl⟩:=hz.lit
 clear hz
 have h1:¬(s.size:Int)<(size:Int):=by omega
 have h2:(size:Int)<=(s.size:Int):=by omega
 have hA:=fun w=>ry w (s.extract 2 size) fT (by rw[ByteArray.size_extract];omega)
 unfold dn at hQ
 rw[if_neg (by omega)]at hQ
 simp only[show¬(16:Nat)=8 by decide,if_false,false_and,false_or]at hQ
 unfold fT at hA
 cases hb:gO (s.extract 2 size) fT with
 |false=>
  rw[hb]at hQ
  unfold fT at hb
  rw[hb]at hA
  rcases eJ with rfl|rfl|rfl
  all_goals simp only[jF,av,Tryz.f57,Option.getD,ah,cO,Option.map]
  all_goals go_wp2_with (go_at_call 81;refine(hA _).mono ?_;rintro en w2 ⟨rfl,rfl⟩)
  all_goals exact hQ _ rfl rfl
 |true=>
  rw[hb]at hQ
  have hg:=BJ hb
  have hV:=fun w=>tL w (s.extract 2 size) 16 (by rw[ByteArray.size_extract];omega) (by decide) (fun j hj=>KZ (hg j hj))
  unfold fT at hb
  rw[hb]at hA
  have hV':∀w,Calls Tryz.prog 82 #[.string (s.extract 2 size),.int .i64 16] w fun e w'=>e= .returned (.int .i64 (uP (s.extract 2 size) (16:Nat) (s.extract 2 size).size 0 0))∧w'=w:=hV
  generalize uP (s.extract 2 size) (16:Nat) (s.extract 2 size).size 0 0=v at hV' hQ
  simp only[Bool.true_eq_false,if_false]at hQ
  unfold dY at hQ
  rcases eJ with rfl|rfl|rfl
  all_goals simp only[jF,av,Tryz.f57,Option.getD,ah,cO,Option.map]
  all_goals go_wp2_with (first
   |(go_at_call 81;refine(hA _).mono ?_;rintro en w2 ⟨rfl,rfl⟩)
   |(go_at_call 82;refine(hV' _).mono ?_;rintro en w2 ⟨rfl,rfl⟩))
  all_goals first
   |(rw[if_neg (by omega)]at hQ;exact hQ _ rfl rfl)
   |(rw[if_pos (by omega)]at hQ;exact hQ _ rfl rfl)
   |trace_state
def fL:U:=⟨#[48,49,50,51,52,53,54,55,56,57]⟩
def Jo:U:=⟨#[48,49]⟩
def acb:U:=⟨#[95]⟩
def rB:U:=⟨#[95,95]⟩
def cC(s d:U):Bool:=gO s (d++acb)&&(((s.get! 0).toNat != 95)&&(((s.get! (s.size-1)).toNat != 95)&&decide (gM s rB<0)))
def iL(s b:U):Nat->Nat->U×U×Bool
 |0,_=>(s,⟨#[]⟩,false)
 |n+1,i=>if i<s.size then(if cJ b (s.get! i)=true then(s.extract 0 i,s.extract (i+1) s.size,true)else iL s b n (i+1))else(s,⟨#[]⟩,false)
def dQ(s b:U):U×U×Bool:=iL s b s.size 0
def fU(s:U):U:=⟨(Lib.trimPrefix s.data.toList [95]).toArray⟩
def Df(s:U):U×U:=
 if(s.get! 1).toNat=120∨(s.get! 1).toNat=88 then(fT,s.extract 2 s.size)
 else if(s.get! 1).toNat=98∨(s.get! 1).toNat=66 then(Jo,s.extract 2 s.size)
 else if(s.get! 1).toNat=111∨(s.get! 1).toNat=79 then(g_,s.extract 2 s.size)
 else(g_,s.extract 1 s.size)
def mE(s:U):Bool:=if s.size<2∨(s.get! 0).toNat≠48 then cC s fL else cC (fU (Df s).2) (Df s).1
def gP(s:U):Bool:=if s.size≠0∧((s.get! 0).toNat=43∨(s.get! 0).toNat=45)then cC (s.extract 1 s.size) fL else cC s fL
def pP:U:=⟨#[112,80]⟩
def eE:U:=⟨#[101,69]⟩
def lQ:U:=⟨#[46]⟩
def emp(s:U):Bool:=s.toList.isEmpty
def BK(c d:U×U×Bool):Bool:=
 if(!c.2.2|| !gP c.2.1)||(emp d.1&&emp d.2.1)then false else(cC (fU d.1) fT||(emp d.1&&d.2.2))&&(emp d.2.1||cC d.2.1 fT)
def zh(c d:U×U×Bool):Bool:=
 if((c.2.2&& !gP c.2.1)||(!c.2.2&& !d.2.2))||(emp d.1&&emp d.2.1)then false else(emp d.1||cC d.1 fL)&&(emp d.2.1||cC d.2.1 fL)
def cD(s:U):Bool:=Lib.hasPrefix s.data.toList [48,120]||Lib.hasPrefix s.data.toList [48,88]
def fC(s:U):Bool:=if cD s=true then BK (dQ (s.extract 2 s.size) pP) (dQ (dQ (s.extract 2 s.size) pP).1 lQ)else zh (dQ s eE) (dQ (dQ s eE).1 lQ)
def cE(s:U):Int:=
 if s.size=0 then -1 else if mE s=true then 0 else if fC s=true then 1
 else if(s.get! (s.size-1)).toNat=105 then(if s.size-1≠0∧(mE (s.extract 0 (s.size-1))=true∨fC (s.extract 0 (s.size-1))=true∨cC (s.extract 0 (s.size-1)) fL=true)then 2 else -1)else -1
def dx(b:U)(x:Int):Bool:=cJ b (UInt8.ofNat x.toNat)
theorem uQ(b:U)(x:UInt8):dx b ((x.toNat:Nat):Int)=cJ b x:=by
 unfold dx
 rw[Int.toNat_natCast,UInt8.ofNat_toNat]
theorem Gc{s b:U}:∀(n i:Nat),s.size<=i+n->(rv s b n i=true↔∀x∈(bX s).drop i,dx b x=true)
 |0,i,h=>by
  rw[List.drop_eq_nil_of_le (by rw[cS];omega)]
  exact⟨fun _ x hx=>absurd hx List.not_mem_nil,fun _=>rfl⟩
 |n+1,i,h=>by
  by_cases hi:i<s.size
  ·simp only[rv,if_pos hi]
   rw[du hi]
   simp only[List.mem_cons,forall_eq_or_imp,uQ]
   by_cases hb:cJ b (s.get! i)=true
   ·rw[if_pos hb,Gc n (i+1) (by omega)]
    exact⟨fun h=>⟨hb,h⟩,fun h=>h.2⟩
   ·rw[if_neg hb]
    exact⟨fun h=>(by cases h),fun h=>absurd h.1 hb⟩
  ·simp only[rv,if_neg hi]
   rw[List.drop_eq_nil_of_le (by rw[cS];omega)]
   exact⟨fun _ x hx=>absurd hx List.not_mem_nil,fun _=>trivial⟩
theorem N5{s:U}(h:s.size≠0):s.toList.isEmpty=false:=by
 rw[ByteArray.toList_eq s]
 have hl:s.data.toList.length=s.size:=bu s
 cases hd:s.data.toList with
 |nil=>rw[hd]at hl;simp at hl;omega
 |cons a t=>rfl
theorem tN(s:U):emp s=decide (s.size=0):=by
 unfold emp
 by_cases h0:s.size=0
 ·rw[decide_eq_true h0,ByteArray.toList_eq s]
  have hl:s.data.toList.length=s.size:=bu s
  rw[List.isEmpty_iff]
  exact List.eq_nil_of_length_eq_zero (by omega)
 ·rw[N5 h0,decide_eq_false h0]
theorem BL{s b:U}:gO s b=true↔(∀x∈bX s,dx b x=true)∧s.size≠0:=by
 unfold gO
 have e:=tN s
 unfold emp at e
 rw[e,Bool.and_eq_true,Gc s.size 0 (by omega),List.drop_zero]
 simp
theorem p_{s x:U}:∀(n i:Nat),0<=qs s x n i->∃j,i<=j∧j+x.size<=s.size∧(s.extract j (j+x.size)).toList=x.toList∧qs s x n i=j
 |0,i,h=>by simp[qs]at h
 |n+1,i,h=>by
  rw[qs]at h⊢
  split at h
  ·rename_i h1
   split at h
   ·rename_i h2
    rw[if_pos h1,if_pos h2]
    exact⟨i,Nat.le_refl _,h1,h2,rfl⟩
   ·rename_i h2
    rw[if_pos h1,if_neg h2]
    obtain⟨j,g1,g2,g3,g4⟩:=p_ n (i+1) h
    exact⟨j,by omega,g2,g3,g4⟩
  ·omega
def pz:List Int->Bool
 |[]=>true
 |c::t=> !(c==95&&t.head?==some 95)&&pz t
theorem tO{D:Int->Bool}:∀(l:List Int) (prev:Bool),gN D prev l=true↔((∀x∈l,D x=true∨x=95)∧(l.head?=some 95->prev=true)∧(l=[]->prev=true)∧l.getLast?≠some 95∧pz l=true)
 |[],prev=>by simp[gN,pz]
 |c::t,prev=>by
  have ih0:=tO (D:=D) t false
  have ih1:=tO (D:=D) t true
  simp only[gN]
  by_cases hc:c=95
  ·rw[if_pos hc,Bool.and_eq_true,ih0]
   subst hc
   constructor
   ·rintro⟨h1,h2,h3,h4,h5,h6⟩
    have dH:t≠[]:=fun e=>by have:=h4 e;cases this
    refine⟨fun x hx=> ?_,fun _=>h1,fun e=>(by cases e),?_,?_⟩
    ·rcases List.mem_cons.1 hx with rfl|hx
     ·exact .inr rfl
     ·exact h2 x hx
    ·rw[List.getLast?_cons_of_ne_nil dH];exact h5
    ·simp only[pz,Bool.and_eq_true,Bool.not_eq_true',beq_self_eq_true,Bool.true_and]
     refine⟨?_,h6⟩
     cases hh:t.head?==some 95 with
     |false=>rfl
     |true=>have:=h3 (by simpa using hh);cases this
   ·rintro⟨h1,h2,h3,h4,h5⟩
    have dH:t≠[]:=fun e=>by subst e;exact h4 rfl
    rw[List.getLast?_cons_of_ne_nil dH]at h4
    simp only[pz,Bool.and_eq_true,Bool.not_eq_true',beq_self_eq_true,Bool.true_and]at h5
    refine⟨h2 rfl,fun x hx=>h1 x (List.mem_cons_of_mem _ hx),fun e=> ?_,fun e=>absurd e dH,h4,h5.2⟩
    rw[e]at h5;simp at h5
  ·rw[if_neg hc,Bool.and_eq_true,ih1]
   constructor
   ·rintro⟨h1,h2,h3,h4,h5,h6⟩
    refine⟨fun x hx=> ?_,fun e=>(by simp only[List.head?_cons,Option.some.injEq]at e;exact absurd e hc),fun e=>(by cases e),?_,?_⟩
    ·rcases List.mem_cons.1 hx with rfl|hx
     ·exact .inl h1
     ·exact h2 x hx
    ·cases t with
     |nil=>simpa using hc
     |cons d t=>rw[List.getLast?_cons_of_ne_nil (by simp)];exact h5
    ·simp only[pz,beq_eq_false_iff_ne.2 hc,Bool.false_and,Bool.not_false,Bool.true_and]
     exact h6
   ·rintro⟨h1,h2,h3,h4,h5⟩
    simp only[pz,beq_eq_false_iff_ne.2 hc,Bool.false_and,Bool.not_false,Bool.true_and]at h5
    refine⟨?_,fun x hx=>h1 x (List.mem_cons_of_mem _ hx),fun _=>rfl,fun _=>rfl,?_,h5⟩
    ·rcases h1 c (by simp)with h|h
     ·exact h
     ·exact absurd h hc
    ·cases t with
     |nil=>simp
     |cons d t=>rw[List.getLast?_cons_of_ne_nil (by simp)]at h4;exact h4
theorem BM:∀(l:List Int),pz l=true↔∀j:Nat,¬(l[j]? =some 95∧l[j+1]? =some 95)
 |[]=>by simp[pz]
 |c::t=>by
  simp only[pz,Bool.and_eq_true,BM t]
  constructor
  ·rintro⟨h1,h2⟩ j ⟨g1,g2⟩
   cases j with
   |zero=>
    simp only[List.getElem?_cons_zero,Option.some.injEq]at g1
    rw[List.getElem?_cons_succ,←List.head?_eq_getElem?]at g2
    subst g1
    rw[g2]at h1
    simp at h1
   |succ j=>
    rw[List.getElem?_cons_succ]at g1 g2
    exact h2 j ⟨g1,g2⟩
  ·intro h
   refine⟨?_,fun j hj=>h (j+1) (by rw[List.getElem?_cons_succ,List.getElem?_cons_succ];exact hj)⟩
   cases hc:c==95 with
   |false=>rfl
   |true=>
    cases ht:t.head?==some 95 with
    |false=>rfl
    |true=>
     refine absurd ?_ (h 0)
     have h1:c=95:=by simpa using hc
     have h2:t.head?=some 95:=by simpa using ht
     subst h1
     rw[List.head?_eq_getElem?]at h2
     exact⟨rfl,by rw[List.getElem?_cons_succ];exact h2⟩
theorem Xw{s:U}:gM s rB<0↔pz (bX s)=true:=by
 have key:∀j,j+2<=s.size->((s.extract j (j+rB.size)).toList=rB.toList↔((bX s)[j]? =some 95∧(bX s)[j+1]? =some 95)):=fun j hj=>by
  have eJ:(s.extract j (j+rB.size)).size=2:=by rw[aA _ _ _ (by show j+2<=_;omega)];show j+2-j=2;omega
  have e0:(s.extract j (j+rB.size)).get! 0=s.get! j:=by rw[a7 _ _ _ _ (by show j+2<=_;omega) (by show 0<j+2-j;omega),Nat.add_zero]
  have e1:(s.extract j (j+rB.size)).get! 1=s.get! (j+1):=by rw[a7 _ _ _ _ (by show j+2<=_;omega) (by show 1<j+2-j;omega)]
  rw[jb (by omega),jb (by omega)]
  simp only[Option.some.injEq]
  constructor
  ·intro h
   have h:=toList_inj h
   rw[h]at e0 e1
   have f0:rB.get! 0=95:=rfl
   have f1:rB.get! 1=95:=rfl
   rw[←e0,←e1,f0,f1]
   exact⟨rfl,rfl⟩
  ·rintro⟨h0,h1⟩
   refine congrArg ByteArray.toList (fx eJ (fun k hk=> ?_))
   rw[eJ]at hk
   match k,hk with
   |0,_=>rw[e0];exact UInt8.toNat_inj.1 (by show _=95;omega)
   |1,_=>rw[e1];exact UInt8.toNat_inj.1 (by show _=95;omega)
 rw[BM]
 constructor
 ·intro h j hj
  have hl:j+2<=s.size:=by
   have:=(List.getElem?_eq_some_iff.1 hj.2).1
   rw[cS]at this;omega
  exact BC h j hl ((key j hl).2 hj)
 ·intro h
  by_cases h0:gM s rB<0
  ·exact h0
  ·obtain⟨j,_,g2,g3,_⟩:=p_ (s:=s) (x:=rB) (s.size+1) 0 (by unfold gM at h0;omega)
   exact absurd ((key j g2).1 g3) (h j)
theorem iB(b:U)(x:UInt8):cJ b x=true↔x∈b.data.toList:=by
 unfold cJ
 rw[decide_eq_true_iff]
 constructor
 ·intro h
  obtain⟨i,hi⟩:=Int.eq_ofNat_of_zero_le h
  exact List.mem_iff_getElem?.2 ⟨i,(Lib.indexByte_some hi).1⟩
 ·intro h
  have h1:=Lib.indexByte_ge b.data.toList x
  by_cases h2:Lib.indexByte b.data.toList x= -1
  ·obtain⟨j,hj⟩:=List.mem_iff_getElem?.1 h
   exact absurd hj (Lib.indexByte_none h2 j)
  ·omega
theorem SC(a b:U)(x:Int):dx (a++b) x=(dx a x||dx b x):=by
 have:dx (a++b) x=true↔(dx a x||dx b x)=true:=by
  unfold dx
  rw[Bool.or_eq_true,iB,iB,iB,yY,List.mem_append]
 cases h1:dx (a++b) x<;>cases h2:(dx a x||dx b x)<;>simp_all
theorem SD{x:Int}(h0:0<=x)(h1:x<256):dx acb x=true↔x=95:=by
 unfold dx
 rw[iB]
 show _∈[(95:UInt8)]↔_
 rw[List.mem_singleton]
 constructor
 ·intro h
  have:=congrArg UInt8.toNat h
  rw[UInt8.toNat_ofNat']at this
  have BF:(95:UInt8).toNat=95:=rfl
  rw[BF]at this
  omega
 ·rintro rfl;rfl
theorem ma(s d:U):cC s d=gN (dx d) false (bX s):=by
 have:cC s d=true↔gN (dx d) false (bX s)=true:=by
  unfold cC
  rw[tO,Bool.and_eq_true,Bool.and_eq_true,Bool.and_eq_true,BL,decide_eq_true_iff,Xw]
  have sc:(∀x∈bX s,dx (d++acb) x=true)↔∀x∈bX s,dx d x=true∨x=95:=by
   refine forall_congr' (fun x=>forall_congr' (fun hx=> ?_))
   have:=iA s x hx
   rw[SC,Bool.or_eq_true,SD this.1 this.2]
  rw[sc]
  have afn:bX s=[]↔s.size=0:=by
   rw[←List.length_eq_zero_iff,cS]
  by_cases h0:s.size=0
  ·have:=afn.2 h0
   constructor
   ·rintro⟨⟨_,h⟩,_⟩;exact absurd h0 h
   ·rintro⟨_,_,h,_⟩;have:=h this;cases this
  ·have hh:(bX s).head?=some (((s.get! 0).toNat:Nat):Int):=by rw[List.head?_eq_getElem?];exact jb (by omega)
   have hl:(bX s).getLast?=some (((s.get! (s.size-1)).toNat:Nat):Int):=by rw[List.getLast?_eq_getElem?,cS];exact jb (by omega)
   rw[hh,hl,afn]
   simp only[Option.some.injEq,bne_iff_ne,ne_eq]
   constructor
   ·rintro⟨⟨h1,_⟩,h2,h3,h4⟩
    exact⟨h1,fun e=>absurd (by omega) h2,fun e=>absurd e h0,fun e=>h3 (by omega),h4⟩
   ·rintro⟨h1,h2,h3,h4,h5⟩
    exact⟨⟨h1,h0⟩,fun e=>(by have:=h2 (by omega);cases this),fun e=>h4 (by omega),h5⟩
 cases h1:cC s d<;>cases h2:gN (dx d) false (bX s)<;>simp_all
theorem Ge{s b:U}:∀(n i:Nat),s.size<=i+n->i<=s.size->(∀x∈(bX s).take i,dx b x=false)->
 ((iL s b n i).2.2=true∧∃c,bX s=bX (iL s b n i).1++c::bX (iL s b n i).2.1∧dx b c=true∧∀x∈bX (iL s b n i).1,dx b x=false)∨
 ((iL s b n i).2.2=false∧(iL s b n i).1=s∧(iL s b n i).2.1=⟨#[]⟩∧∀x∈bX s,dx b x=false)
 |0,i,h1,h2,h3=>by
  refine .inr ⟨rfl,rfl,rfl,?_⟩
  rw[List.take_of_length_le (by rw[cS];omega)]at h3
  exact h3
 |n+1,i,h1,h2,h3=>by
  by_cases hi:i<s.size
  ·simp only[iL,if_pos hi]
   by_cases hb:cJ b (s.get! i)=true
   ·rw[if_pos hb]
    have e1:bX (s.extract 0 i)=(bX s).take i:=by rw[ka _ _ _ (by omega),List.drop_zero,Nat.sub_zero]
    have e2:bX (s.extract (i+1) s.size)=(bX s).drop (i+1):=by rw[ka _ _ _ (by omega),List.take_of_length_le (by rw[List.length_drop,cS];omega)]
    refine .inl ⟨rfl,(((s.get! i).toNat:Nat):Int),?_,by rw[uQ];exact hb,?_⟩
    ·simp only
     rw[e1,e2,←du hi,List.take_append_drop]
    ·simp only
     rw[e1];exact h3
   ·rw[if_neg hb]
    refine Ge n (i+1) (by omega) (by omega) (fun x hx=> ?_)
    rw[List.take_add_one,jb hi]at hx
    rcases List.mem_append.1 hx with hx|hx
    ·exact h3 x hx
    ·simp only[Option.toList_some,List.mem_singleton]at hx
     subst hx
     rw[uQ]
     simpa using hb
  ·simp only[iL,if_neg hi]
   refine .inr ⟨trivial,trivial,trivial,?_⟩
   rw[List.take_of_length_le (by rw[cS];omega)]at h3
   exact h3
theorem Dg(s b:U):((dQ s b).2.2=true∧∃c,bX s=bX (dQ s b).1++c::bX (dQ s b).2.1∧dx b c=true∧∀x∈bX (dQ s b).1,dx b x=false)∨
 ((dQ s b).2.2=false∧(dQ s b).1=s∧(dQ s b).2.1=⟨#[]⟩∧∀x∈bX s,dx b x=false):=Ge s.size 0 (by omega) (Nat.zero_le _) (fun x hx=>by simp at hx)
def Jp:U:=⟨#[97,98,102,110,114,116,118,92]⟩
def dR(s:U)(q:Int):Int:=
 if cJ Jp (s.get! 1)=true∨((s.get! 1).toNat:Int)=q then 2
 else if(s.get! 1).toNat=120 then dn s 4 16 2
 else if(s.get! 1).toNat=117 then dn s 6 16 2
 else if(s.get! 1).toNat=85 then dn s 10 16 2
 else if 48<=(s.get! 1).toNat∧(s.get! 1).toNat<=55 then dn s 4 8 1
 else 0
def afo(s:U)(q:Int)(Z:Int)(a:Act):Prop:=
 ∃size base digits:Nat,SX5 (.string s) (.int .u8 q) (.int .i64 size) (.int .i64 base) (.int .i64 digits) a∧
  ((size=0∧Z=0)∨((size=4∨size=6∨size=10)∧base=16∧digits=2∧Z=dn s size 16 2)∨(size=4∧base=8∧digits=1∧Z=dn s 4 8 1))
theorem Xx{w:World}{s:U}{q:Int}(hs:2<=s.size)(FI:s.size<=8589934592)(C:Code)(Q:Exit->Act->World->Prop)
 (h2:dR s q=2->∀a',a'.defers=[]->a'.tmps[4]? =some (.int .i64 2)->Q .ret a' w)
 (hQ:∀a,afo s q (dR s q) a->C.wp Tryz.prog Q a w):
 (Code.seq (Xr 0) (.seq (Xr 1) (.seq (Xr 2) (.seq (Xr 3) C)))).wp Tryz.prog Q {tmps:=#[.string s,.int .u8 q]++Array.replicate 97 undef,defers:=[]} w:=by
 have h1:¬(s.size:Int)<2:=by omega
 have hx:1<s.size:=by omega
 have hx1:(1:Int)<(s.size:Int):=by omega
 have hI:=fun w=>cX w Jp (s[1].toNat:Nat)
 rw[show((s[1].toNat:Nat):Int).toNat.toUInt8=s[1]by simp]at hI
 unfold dR at h2 hQ
 rw[dP s 1 hx]at h2 hQ
 unfold cJ at h2 hQ
 generalize Lib.indexByte Jp.data.toList s[1]=ix at hI h2 hQ
 unfold Jp at hI
 simp only[Xr,bQ,jF,av,Tryz.f57,Option.getD,ah,cO,Option.map,Array.replicate_succ,Array.replicate_zero,List.push_toArray,List.append_toArray,List.nil_append,List.cons_append]
 go_wp2_with (go_at_call 22;refine(hI _).mono ?_;rintro en w2 ⟨rfl,rfl⟩)
 all_goals simp only[beq_iff_eq,beq_eq_false_iff_ne,ne_eq,decide_eq_true_eq]at*
 all_goals first
  |(refine h2 ?_ _ rfl rfl;rw[if_pos (by omega)];done)
  |(refine hQ _ ⟨4,16,2,⟨rfl,rfl,rfl,rfl,rfl,rfl,rfl⟩,.inr (.inl ⟨.inl rfl,rfl,rfl,?_⟩)⟩;rw[if_neg (by omega),if_pos (by omega)];done)
  |(refine hQ _ ⟨6,16,2,⟨rfl,rfl,rfl,rfl,rfl,rfl,rfl⟩,.inr (.inl ⟨.inr (.inl rfl),rfl,rfl,?_⟩)⟩;rw[if_neg (by omega),if_neg (by omega),if_pos (by omega)];done)
  |(refine hQ _ ⟨10,16,2,⟨rfl,rfl,rfl,rfl,rfl,rfl,rfl⟩,.inr (.inl ⟨.inr (.inr rfl),rfl,rfl,?_⟩)⟩;rw[if_neg (by omega),if_neg (by omega),if_neg (by omega),if_pos (by omega)];done)
  |(refine hQ _ ⟨4,8,1,⟨rfl,rfl,rfl,rfl,rfl,rfl,rfl⟩,.inr (.inr ⟨rfl,rfl,rfl,?_⟩)⟩;rw[if_neg (by omega),if_neg (by omega),if_neg (by omega),if_neg (by omega),if_pos (by omega)];done)
  |(refine hQ _ ⟨0,16,0,⟨rfl,rfl,rfl,rfl,rfl,rfl,rfl⟩,.inl ⟨rfl,?_⟩⟩;rw[if_neg (by omega),if_neg (by omega),if_neg (by omega),if_neg (by omega),if_neg (by omega)];done)
  |trace_state
theorem Gf(w:World)(s:U)(q:Int)(hs:2<=s.size)(FI:s.size<=8589934592):Calls Tryz.prog 57 #[.string s,.int .u8 q] w fun e w'=>e= .returned (.int .i64 (dR s q))∧w'=w:=by
 refine calls_of_wp Tryz.func57 Xs ?_
 have yV:(Tryz.f57).ntmps-(#[.string s,.int .u8 q]:Array Value).size=97:=by kernel_rfl
 rw[yV]
 have fin:∀a':Act,a'.defers=[]->a'.tmps[4]? =some (.int .i64 (dR s q))->bodyPost Tryz.prog Tryz.f57 (fun e w'=>e= .returned (.int .i64 (dR s q))∧w'=w) .ret a' w:=fun a' d0 d4=>⟨d0,_,bK (k:=4) (by kernel_rfl) d4,rfl,rfl⟩
 refine Xx hs FI _ _ (fun h2 a' d0 d4=>fin a' d0 (by rw[h2];exact d4)) (fun a hm=> ?_)
 obtain⟨size,base,digits,hz,hm⟩:=hm
 rcases hm with⟨rfl,hZ⟩|⟨eJ,rfl,rfl,hZ⟩|⟨rfl,rfl,rfl,hZ⟩
 ·rw[hZ]at fin
  exact Xv a hz _ (fun a' d0 d4=>by rw[hZ];exact fin a' d0 d4)
 ·by_cases bz:s.size<size
  ·have hZ2:dR s q=0:=by rw[hZ];unfold dn;rw[if_pos bz]
   rw[hZ2]at fin
   exact Gb bz a hz _ (fun a' d0 d4=>by rw[hZ2];exact fin a' d0 d4)
  ·rw[hZ]at fin
   exact N4 eJ (by omega) FI a hz _ (fun a' d0 d4=>by rw[hZ];exact fin a' d0 d4)
 ·by_cases bz:s.size<4
  ·have hZ2:dR s q=0:=by rw[hZ];unfold dn;rw[if_pos bz]
   rw[hZ2]at fin
   exact Gb bz a hz _ (fun a' d0 d4=>by rw[hZ2];exact fin a' d0 d4)
  ·rw[hZ]at fin
   exact Sz (by omega) FI a hz _ (fun a' d0 d4=>by rw[hZ];exact fin a' d0 d4)
structure Dh where
 text:U
 line:Int
 aM:Int
structure LS where
 p:Nat
 line:Nat
 st:Nat
 ends:Bool
 stop:Nat
 fst:Nat
 ai:Nat
 out:List eP
 rem:List Dh
def dk(s:U)(x:LS)(cls kind:Int)(kO:Nat):LS:=
 {x with
  fst:=if kO≠x.stop then x.out.length else x.fst
  out:=x.out++[⟨cls,s.extract kO x.p,kind,x.line,(kO:Int)-x.st+1⟩]
  ends:=decide (cls=1)||decide (cls=2)||(decide (cls=3)&&c_ (s.extract kO x.p))
  stop:=x.p}
def cY(x:LS):LS:={x with out:=if x.ends=true then x.out++[⟨4,⟨#[]⟩,0,x.line,0⟩]else x.out,ends:=false}
def ca(s:U)(p:Nat):Bool:=decide (p<s.size)&&((decide ((Utf8.decode s p).1=65533)&&decide ((Utf8.decode s p).2=1))||decide ((Utf8.decode s p).1=0)||(decide ((Utf8.decode s p).1=65279)&&decide (0<p)))
def ba(s:U)(p:Nat):Int:=if p<s.size then(Utf8.decode s p).1 else -1
def aN(s:U)(p:Nat):Nat:=if p<s.size then(Utf8.decode s p).2 else 0
def cB(s:U)(p:Nat)(x:LS):LS:=if ca s p=true then{x with ai:=1}else x
def br(s:U)(x:LS)(n:Nat):LS:=if(s.get! x.p).toNat=10 then{x with line:=x.line+1,st:=x.p+1,p:=x.p+n}else{x with p:=x.p+n}
def bU(s:U):Nat->LS->LS
 |0,x=>x
 |n+1,x=>if x.p<s.size then
  (if(s.get! x.p).toNat=10 then bU s n (br s (cY x) 1)
   else if(s.get! x.p).toNat=32∨(s.get! x.p).toNat=9∨(s.get! x.p).toNat=13 then bU s n (br s x 1)else x)
  else x
def bV(s:U)(e:Nat):Nat->LS->LS
 |0,x=>x
 |n+1,x=>if x.ai=0∧x.p<e then bV s e n (br s (cB s x.p x) (aN s x.p))else x
def dh(s:U):Nat->LS->LS
 |0,x=>x
 |n+1,x=>if x.ai=0∧x.p<s.size∧(s.get! x.p).toNat≠10 then dh s n {cB s x.p x with p:=x.p+aN s x.p}else x
def bT(s:U)(x:LS):Option LS:=
 let tell:=fun(y:LS)=>{y with rem:=y.rem++[⟨s.extract x.p y.p,x.line,(x.p:Int)-x.st+1⟩]}
 if Lib.hasPrefix (s.extract x.p s.size).data.toList N1.data.toList=true then some (tell (dh s s.size x))
 else if Lib.hasPrefix (s.extract x.p s.size).data.toList Jk.data.toList=true then
  (let k:=gM (s.extract (x.p+2) s.size) ⟨#[42,47]⟩
   if k<0 then some {x with ai:=1}
   else
    let e:=x.p+k.toNat+4
    let y:=bV s e s.size x
    some (tell (bV s e s.size (if y.ai=0∧0<=Lib.indexByte (s.extract x.p (x.p+2+k.toNat)).data.toList 10 then cY x else x))))
 else none
def bW(s:U):Nat->Nat->Nat
 |0,p=>p
 |n+1,p=>if p<s.size then(if ko (Utf8.decode s p).1=true then bW s n (p+(Utf8.decode s p).2)else p)else p
def qt(b:UInt8):Bool:=decide (48<=b.toNat)&&decide (b.toNat<=57)
def fk(s:U)(f:Nat)(hex:Bool):Nat->Nat->Nat
 |0,p=>p
 |n+1,p=>if p<s.size then
  (let b:=s.get! p
   let l:=if f<p then(s.get! (p-1)).toNat|||32 else 0
   if((b.toNat=43∨b.toNat=45)∧((l=101∧hex=false)∨(l=112∧hex=true)))∨b.toNat=46∨b.toNat=95∨qt b=true∨(97<=b.toNat|||32∧b.toNat|||32<=122)then fk s f hex n (p+1)else p)
  else p
def jT(s:U)(x:LS):LS:=
 let e:=fk s x.p (cD (s.extract x.p s.size)) s.size x.p
 if cE (s.extract x.p e)<0∨(e<s.size∧128<=(Utf8.decode s e).1)then{x with ai:=2}
 else dk s {x with p:=e} 2 (cE (s.extract x.p e)) x.p
def bE(s:U)(q:Int)(f:Nat):Nat->Nat->LS->LS
 |0,c,x=>x
 |n+1,c,x=>if x.ai=0 then
  (if ca s x.p=true then{x with ai:=1}
   else if aN s x.p=0∨ba s x.p=10 then{x with ai:=1}
   else if ba s x.p=q then
    (if q=34 then dk s {x with p:=x.p+1} 2 4 f else if c=1 then dk s {x with p:=x.p+1} 2 3 f else{x with p:=x.p+1,ai:=1})
   else if ba s x.p=92 then
    (if dR (s.extract x.p s.size) q=0 then{x with ai:=1}else bE s q f n (c+1) {x with p:=x.p+(dR (s.extract x.p s.size) q).toNat})
   else bE s q f n (c+1) {x with p:=x.p+aN s x.p})
  else x
def eZ(s:U)(f:Nat):Nat->LS->LS
 |0,x=>x
 |n+1,x=>if ca s x.p=true∨aN s x.p=0 then{x with ai:=1}
  else if ba s x.p=96 then dk s (br s x (aN s x.p)) 2 4 f
  else eZ s f n (br s x (aN s x.p))
def K0(l:List eP)(line:Nat)(aM:Int):List eP:=match l.getLast? with
 |some t=>l.dropLast++[{t with line:=line,aM:=aM}]
 |none=>l
def mb(s:U)(x:LS):LS:=match jS.find? fun w=>Lib.hasPrefix (s.extract x.p s.size).data.toList w.data.toList with
 |some w=>dk s {x with p:=x.p+w.size} 3 0 x.p
 |none=>{x with ai:=1}
def bR(s:U)(x:LS):LS:=
 let b:=s.get! x.p
 if ca s x.p=true then{x with ai:=1}
 else if iO (ba s x.p)=true then
  (let e:=bW s s.size x.p
   dk s {x with p:=e} (if gY (s.extract x.p e)=true then 3 else 1) 0 x.p)
 else if qt b=true∨(b.toNat=46∧x.p+1<s.size∧qt (s.get! (x.p+1))=true)then jT s x
 else if b.toNat=34∨b.toNat=39 then bE s b.toNat x.p s.size 0 {x with p:=x.p+1}
 else if b.toNat=96 then
  (let y:=eZ s x.p s.size {x with p:=x.p+1}
   if y.ai=0 then{y with out:=K0 y.out x.line ((x.p:Int)-x.st+1)}else y)
 else if b.toNat=59 then dk s {x with p:=x.p+1} 4 0 x.p
 else mb s x
def iC(s:U)(x:LS):LS×Bool:=
 let x:=bU s s.size x
 if s.size<=x.p then(dk s (cY x) 0 0 x.p,true)
 else
  let y:=(bT s x).getD (bR s x)
  if y.ai≠0∧x.p=y.stop∧0<y.out.length then({y with out:=y.out.take y.fst},false)else(y,false)
def fD(s:U):Nat->LS->LS
 |0,x=>x
 |n+1,x=>if x.ai=0 then(if(iC s x).2=true then(iC s x).1 else fD s n (iC s x).1)else x
def Gg:U:=⟨#[239,187,191]⟩
def Gh(s:U):LS:=⟨if Lib.hasPrefix s.data.toList Gg.data.toList=true then 3 else 0,1,0,false,0,0,0,[],[]⟩
def rC(s:U):LS:=fD s (s.size+1) (Gh s)
structure bG where
 w0:World
 ea:Addr
 S:Nat
 base:Nat
 O:U
 rows:Bool
structure bG.Ok(A:bG):Prop where
 jU:oU A.w0 A.ea
 n1:A.O.size<=2147483647
 lo:A.w0.heap.size<=A.S
 hi:A.rows=true->A.S<A.base
structure LI where
 pos:Int
 line:Int
 start:Int
 ends:Bool
 stop:Int
 first:Int
 ai:Int
 out:List eP
 rem:List Dh
def LS.bg(x:LS):LI:=⟨x.p,x.line,x.st,x.ends,x.stop,x.fst,x.ai,x.out,x.rem⟩
def de(O:U)(x:LI)(vo vr:Value):Array Value:=#[.string O,.int .i64 x.pos,.int .i64 x.line,.int .i64 x.start,.bool x.ends,.int .i64 x.stop,.int .i64 x.first,.int .i64 x.ai,vo,vr]
def di(r:Dh):List Value:=[.string r.text,.int .i64 r.line,.int .i64 r.aM]
structure bj(A:bG)(x:LI)(w:World):Prop where
 ok:A.Ok
 below:Below A.w0.heap.size A.w0 w
 jI:∃vo vr,w.heap[A.S]? =some (.cells (de A.O x vo vr) 58 (0,0))∧(A.rows=true->w.ownsRow A.base 29 5 vo x.out.length (flat cw x.out)∧w.ownsRow A.base 53 3 vr x.rem.length (flat di x.rem))
 size:A.rows=true->A.base<=w.heap.size
def SF(A:bG)(x:LI):Nat->Option SV
 |0=>some (.val (.string A.O))
 |1=>some (.val (.int .i64 x.pos))
 |2=>some (.val (.int .i64 x.line))
 |3=>some (.val (.int .i64 x.start))
 |4=>some (.val (.bool x.ends))
 |5=>some (.val (.int .i64 x.stop))
 |6=>some (.val (.int .i64 x.first))
 |7=>some (.val (.int .i64 x.ai))
 |_=>none
def Gj(x:LI)(o:Nat)(v:SV):Option LI:=
 match o with
 |1=>(fh .i64 v).map fun n=>{x with pos:=n}
 |2=>(fh .i64 v).map fun n=>{x with line:=n}
 |3=>(fh .i64 v).map fun n=>{x with start:=n}
 |4=>(gk v).map fun n=>{x with ends:=n}
 |5=>(fh .i64 v).map fun n=>{x with stop:=n}
 |6=>(fh .i64 v).map fun n=>{x with first:=n}
 |7=>(fh .i64 v).map fun n=>{x with ai:=n}
 |_=>none
def acd(s f:Nat):Option Nat:=bif Nat.beq s 58 then(bif Nat.blt f 10 then some f else none)else none
def LY(A:bG):Ev.Sys where
 P:=Tryz.prog
 σ:=LI
 S:=A.S
 B:=0
 get:=SF A
 set:=Gj
 fnv:=fun _=> .tuple #[]
 Inv:=bj A
 jo:=fun k t=>k<A.w0.heap.size∨k=A.S∨(A.rows=true∧A.base<=k∧(t=some 29∨t=some 53))
 ik:=UY
 one:=J1
 fo:=acd
 isStr:=fun t=>Nat.beq t 9
 lL:=fun _=>false
 Ap:=fun _=>false
 vg:=fun _=>false
 sle:=fun _=>False
 eM:=fun _=>False
 xr:=fun _=> .iface 0 (.tuple #[])
 jU:=fun _=>none
 UK:=fun _=>false
 D:=0
 qm:=fun _ _ _=>none
 JR:=fun _ _ _ _=>none
 OO:=fun _ _=>False
 OP:=fun _ _ _ _=>False
structure Gk(A:bG)(w w':World):Prop where
 below:Below A.w0.heap.size w w'
 s:w'.heap[A.S]? =w.heap[A.S]?
 row:A.rows=true->∀(e:TypeId) (sz n:Nat) (v:Value) (xs:List Value),(e=29∨e=53)->w.ownsRow A.base e sz v n xs->w'.ownsRow A.base e sz v n xs
 size:w.heap.size<=w'.heap.size
theorem bj.kept{A:bG}{x:LI}{w w':World}(h:bj A x w)(k:Gk A w w'):bj A x w':=by
 obtain⟨vo,vr,hb,hr⟩:=h.jI
 exact⟨h.ok,h.below.trans k.below,⟨vo,vr,by rw[k.s];exact hb,fun N6=>⟨k.row N6 _ _ _ _ _ (.inl rfl) (hr N6).1,k.row N6 _ _ _ _ _ (.inr rfl) (hr N6).2⟩⟩,fun N6=>Nat.le_trans (h.size N6) k.size⟩
theorem bj.lt{A:bG}{x:LI}{w:World}(h:bj A x w):A.S<w.heap.size:=by
 obtain⟨vo,vr,hb,_⟩:=h.jI
 exact(Array.getElem?_eq_some_iff.1 hb).1
theorem Gl{A:bG}{x:LI}{w:World}(h:bj A x w){b:Nat}{v:Value}(ht:¬(LY A).jo b (ij w b)):Gk A w (w.setCell ⟨b,0,none⟩ v):=by
 have ht':¬(b<A.w0.heap.size∨b=A.S∨(A.rows=true∧A.base<=b∧(ij w b=some 29∨ij w b=some 53))):=ht
 simp only[not_or]at ht'
 obtain⟨h0,h1,h2⟩:=ht'
 refine⟨(Below.refl _ _).setCell (Nat.le_of_not_lt h0) v,Below.heap_setCell _ _ _ _ (fun e=>h1 e.symm),fun N6 e sz n u xs he bo=>ownsRow_setCell_other bo (fun hk=> ?_) v,by simp⟩
 have:=dt bo hk
 refine h2 ⟨N6,this.1,?_⟩
 rcases he with rfl|rfl
 ·exact .inl this.2.1
 ·exact .inr this.2.1
theorem Gm{A:bG}{x:LI}{w:World}(h:bj A x w)(o:Obj):Gk A w (w.alloc o):=
 ⟨(Below.refl _ _).alloc h.below.size o,Below.heap_alloc _ _ _ h.lt,fun _ _ _ _ _ _ _ bo=>fW bo o,by simp⟩
theorem dm{A:bG}{w:World}:Gk A w w.drew:=⟨Below.drew (Below.refl _ _),rfl,fun _ _ _ _ _ _ _ h=>h,Nat.le_refl _⟩
theorem kb{A:bG}{x:LI}{w w':World}(h:bj A x w)(hB:Below w.heap.size w w'):Gk A w w':=by
 refine⟨fJ hB h.below.size,hB.block _ h.lt,fun N6 e sz n v xs _ bo=>iH hB bo,hB.size⟩
theorem eB{A:bG}{x x':LI}{w:World}(h:bj A x w){o:Nat}{v:Value}(hc:∀vo vr,de A.O x' vo vr=(de A.O x vo vr).setIfInBounds o v)(ho:x'.out=x.out)(hr:x'.rem=x.rem):bj A x' (w.setCell ⟨A.S,o,none⟩ v):=by
 obtain⟨vo,vr,hb,N6⟩:=h.jI
 refine⟨h.ok,h.below.setCell h.ok.lo v,⟨vo,vr,by rw[aZ v hb,hc],fun hh=> ?_⟩,fun hh=>by simpa using h.size hh⟩
 have hS:=h.ok.hi hh
 rw[ho,hr]
 exact⟨ownsRow_setCell_below (N6 hh).1 hS v,ownsRow_setCell_below (N6 hh).2 hS v⟩
theorem SH{x x':LI}{o:Nat}{sv:SV}(h:Gj x o sv=some x')(hs:storable sv=false):False:=by
 unfold Gj at h
 split at h
 all_goals first
  |(cases h;done)
  |(obtain⟨n,hn,_⟩:=Option.map_eq_some_iff.1 h
    first|exact sf hn hs|exact um hn hs)
theorem Xy{s f o:Nat}(h:acd s f=some o)(b n:Nat)(w:World):(Instr.fieldAt s (.pointer (some ⟨b,n,none⟩)) f).run Tryz.prog w= .ok (.pointer (some ⟨b,n+o,none⟩)) w:=by
 unfold acd at h
 cases h1:Nat.beq s 58 with
 |false=>rw[h1]at h;cases h
 |true=>
  have e1:=Nat.eq_of_beq_eq_true h1
  rw[h1]at h
  cases hb:Nat.blt f 10 with
  |false=>rw[hb]at h;cases h
  |true=>
   rw[hb]at h
   simp only[cond_true,Option.some.injEq]at h
   subst h e1
   have hf:f<=9:=by simpa[Nat.blt] using hb
   have:f=0∨f=1∨f=2∨f=3∨f=4∨f=5∨f=6∨f=7∨f=8∨f=9:=by omega
   rcases this with rfl|rfl|rfl|rfl|rfl|rfl|rfl|rfl|rfl|rfl<;>simp[go_sem]
theorem qI(A:bG)(hA:A.Ok):Laws (LY A) where
 xt:=by
  intro st w o sv hI hg
  obtain⟨vo,vr,hb,_⟩:=(show bj A st w from hI).jI
  have cF:∀v,(de A.O st vo vr)[o]? =some v->w.cell? ⟨A.S,o,none⟩=some v:=fun v hv=>ag hb hv
  have hg:SF A st o=some sv:=hg
  unfold SF at hg
  split at hg
  all_goals first
   |(cases hg;done)
   |(simp only[Option.some.injEq]at hg;subst hg;exact⟨_,cF _ rfl,fun _=>rfl⟩)
 B7:=fun _ h=>by cases h
 wE:=fun h=>by cases h
 xu:=fun h=>by cases h
 wF:=fun h=>by cases h
 xv:=fun i=>⟨_,_,rfl⟩
 xw:=by
  intro st aO w o sv v hI hs hv
  have h:bj A st w:=hI
  obtain⟨vo,vr,hb,_⟩:=h.jI
  have cF:∀v,(de A.O st vo vr)[o]? =some v->w.cell? ⟨A.S,o,none⟩=some v:=fun v hv=>ag hb hv
  have hf:w.frozen? ⟨A.S,o,none⟩=false:=aV hb
  have hs:Gj st o sv=some aO:=hs
  unfold Gj at hs
  split at hs
  all_goals first
   |(cases hs;done)
   |(obtain⟨n,hn,rfl⟩:=Option.map_eq_some_iff.1 hs
     have e:=se hn
     subst e
     obtain rfl:v=_:=hv
     exact⟨⟨_,cF _ rfl⟩,hf,rfl,by simp,by simp,eB h (fun _ _=>rfl) rfl rfl⟩)
   |(obtain⟨n,hn,rfl⟩:=Option.map_eq_some_iff.1 hs
     have e:=xR hn hv
     subst e
     exact⟨⟨_,cF _ rfl⟩,hf,rfl,by simp,by simp,eB h (fun _ _=>rfl) rfl rfl⟩)
 B8:=fun _ h=>h
 kg:=SH
 ud:=fun hI ht=>bj.kept hI (Gl hI ht)
 ue:=fun hI c t _=>bj.kept hI (Gm hI _)
 xx:=fun hI=>bj.kept hI dm
 lt:=fun{st w} hI=>by
  have h:bj A st w:=hI
  have:=h.lt
  have:=h.ok.lo
  have:=h.ok.jU.size
  exact⟨h.lt,by show 0<_;omega⟩
 ne:=fun e=>by
  have h1:=hA.lo;have h2:=hA.jU.size
  have e:A.S=0:=e
  omega
 tS:=fun _=> .inr (.inl rfl)
 tB:=fun _=> .inl (by have:=hA.jU.size;show 0<_;omega)
 rU:=fun _ h=>by cases h
 xy:=fun h=>by cases h
 h_:=fun h=>by cases h
 xz:=fun _ h=>by cases h
 B9:=fun h=>by cases h
 Z0:=fun{st w} hI=>by
  have h:bj A st w:=hI
  have h1:=h.lt
  have h2:=h.below.size
  rintro(h3|h3|⟨_,_,h3|h3⟩)
  ·omega
  ·omega
  ·simp at h3
  ·simp at h3
 Aq:=Aq
 adj:=rfl
 mixed:=by kernel_rfl
 xA:=xA
 qK:=qK
 DX:=Xy
 mn:=fun{t} h=>by
  have e:=Nat.eq_of_beq_eq_true h
  subst e
  simp[LY,go_sem]
 qu:=fun h=>by cases h
 Hr:=fun h=>by cases h
 O4:=fun h=>by cases h
 JS:=fun h=>by cases h
theorem N7{A:bG}(hA:A.Ok){f:FuncId}{g:List SV->aq (LY A)->af (SV×aq (LY A))}
 (h:∀(args:List SV) (c:aq (LY A)) (bl:List Nat) (w:World) (bS:List Value) (Q:SV×aq (LY A)->Prop),oM (LY A) bl w args bS->bj A c.st w->(g args c).aD Q->
   ∃sv v,Q (sv,c)∧(∀bl w,Rel (LY A) bl w sv v)∧Calls Tryz.prog f bS.toArray w fun e w'=>e= .returned v∧Below w.heap.size w w'):fg (LY A) f #[] false g:=by
 intro args c bl w bS Q cK hc hs
 obtain⟨sv,v,hq,hrel,EM⟩:=h args c bl w bS Q cK hc.inv hs
 rw[Array.append_empty]
 refine EM.mono ?_
 rintro e w' ⟨rfl,hB⟩
 have hinv:bj A c.st w':=bj.kept hc.inv (kb hc.inv hB)
 refine .inl ⟨sv,c,v,bl,hq,rfl,hrel _ _,kW (Y:=LY A) hc hinv hB,(kV hB bl).ext,fun _ o=> ?_⟩
 have bz:=((qI A hA).lt hc.inv).2
 simp only[World.cell?,hB.block _ bz]
end
end Sc
end Go.Proofs.YtogkcphobhhbdaaGreatDoor
namespace Go.Proofs
open Go.Shelf
noncomputable section
def Tryz.Gn:Go.Shelf.Ren:=⟨fun|197=>52|260=>76|n=>n,fun|9=>9|21=>21|3=>3|4=>4|5=>5|105=>73|119=>110|0=>0|46=>66|139=>134|138=>133|n=>n,fun|3=>7|4=>8|n=>n⟩
theorem Tryz.Xz:Go.Proofs.Lays.n197 Tryz.prog Tryz.Gn:={
 mixed:=by kernel_rfl
 f197:=Tryz.func52.trans (congrArg some (by kernel_rfl))
 f260:=Tryz.func76.trans (congrArg some (by kernel_rfl))
 t0:=Tryz.underlying0
 a0:=Tryz.isAgg0
 z0:=Tryz.sizeOf0
 v0:=Tryz.zeroValue0
 t3:=Tryz.underlying3
 a3:=Tryz.isAgg3
 z3:=Tryz.sizeOf3
 v3:=Tryz.zeroValue3
 t4:=Tryz.underlying4
 a4:=Tryz.isAgg4
 z4:=Tryz.sizeOf4
 v4:=Tryz.zeroValue4
 t5:=Tryz.underlying5
 a5:=Tryz.isAgg5
 z5:=Tryz.sizeOf5
 v5:=Tryz.zeroValue5
 t9:=Tryz.underlying9
 a9:=Tryz.isAgg9
 z9:=Tryz.sizeOf9
 v9:=Tryz.zeroValue9
 t21:=Tryz.underlying21
 a21:=Tryz.isAgg21
 z21:=Tryz.sizeOf21
 v21:=Tryz.zeroValue21
 t46:=Tryz.underlying66
 a46:=Tryz.isAgg66
 z46:=Tryz.sizeOf66
 v46:=Tryz.zeroValue66
 t105:=Tryz.underlying73
 a105:=Tryz.isAgg73
 z105:=Tryz.sizeOf73
 v105:=Tryz.zeroValue73
 t119:=Tryz.underlying110
 a119:=Tryz.isAgg110
 z119:=Tryz.sizeOf110
 t138:=Tryz.underlying133
 a138:=Tryz.isAgg133
 z138:=Tryz.sizeOf133
 v138:=Tryz.zeroValue133
 t139:=Tryz.underlying134
 a139:=Tryz.isAgg134
 z139:=Tryz.sizeOf134
 v139:=Tryz.zeroValue134
 g3:=by kernel_rfl
 g4:=by kernel_rfl}
open Go.RowKit Go.Lib in
theorem Tryz.utf8_DecodeRuneInString(s:U)(w:World)(hT:Lib.Utf8Tabs 7 8 w):
 Calls Tryz.prog 52 #[.string s] w fun e w'=>e= .returned (.tuple #[.int .i32 (Lib.decodeGo s).1,.int .i64 (Lib.decodeGo s).2])∧Below w.heap.size w w':=Any.utf8_DecodeRuneInString Tryz.Xz s w hT
end
end Go.Proofs
namespace Go.Proofs.YtogkcphobhhbdaaGreatDoor
open Go Go.RowKit Go.Lib
namespace Sc
open Ev
set_option maxRecDepth 100000
noncomputable section
theorem dC{a b c:World}(h:Below a.heap.size a b)(h':Below b.heap.size b c):Below a.heap.size a c:=h.trans (fJ h' h.size)
structure SRu(v0 vt vn vi:Value)(a:Act):Prop where
 defers:a.defers=[]
 size:a.tmps.size=32
 s0:a.tmps[0]? =some v0
 s3:a.tmps[3]? =some vt
 s4:a.tmps[4]? =some vn
 s17:a.tmps[17]? =some vi
theorem SRu.lit{v0 vt vn vi:Value}{a:Act}(h:SRu v0 vt vn vi a):∃x:Nat->Value,a={tmps:=#[v0,x 1,x 2,vt,vn,x 5,x 6,x 7,x 8,x 9,x 10,x 11,x 12,x 13,x 14,x 15,x 16,vi,x 18,x 19,x 20,x 21,x 22,x 23,x 24,x 25,x 26,x 27,x 28,x 29,x 30,x 31],defers:=[]}:=by
 refine⟨fun i=>a.tmps.getD i undef,?_⟩
 obtain⟨t,d⟩:=a
 obtain⟨h1,h2,k0,k3,k4,k17⟩:=h
 simp only at h1 h2 k0 k3 k4 k17
 subst h1
 have e0:t.getD 0 undef=v0:=by rw[Array.getD_eq_getD_getElem?,k0];rfl
 have e3:t.getD 3 undef=vt:=by rw[Array.getD_eq_getD_getElem?,k3];rfl
 have e4:t.getD 4 undef=vn:=by rw[Array.getD_eq_getD_getElem?,k4];rfl
 have e17:t.getD 17 undef=vi:=by rw[Array.getD_eq_getD_getElem?,k17];rfl
 have ht:=gx 32 t h2
 rw[←e0,←e3,←e4,←e17]
 exact congrArg (fun t=>({tmps:=t,defers:=[]}:Act)) ht
structure UE(v0 v1 vi:Value)(a:Act):Prop where
 defers:a.defers=[]
 size:a.tmps.size=25
 s0:a.tmps[0]? =some v0
 s1:a.tmps[1]? =some v1
 s5:a.tmps[5]? =some vi
theorem UE.lit{v0 v1 vi:Value}{a:Act}(h:UE v0 v1 vi a):∃x:Nat->Value,a={tmps:=#[v0,v1,x 2,x 3,x 4,vi,x 6,x 7,x 8,x 9,x 10,x 11,x 12,x 13,x 14,x 15,x 16,x 17,x 18,x 19,x 20,x 21,x 22,x 23,x 24],defers:=[]}:=by
 refine⟨fun i=>a.tmps.getD i undef,?_⟩
 obtain⟨t,d⟩:=a
 obtain⟨h1,h2,k0,k1,k5⟩:=h
 simp only at h1 h2 k0 k1 k5
 subst h1
 have e0:t.getD 0 undef=v0:=by rw[Array.getD_eq_getD_getElem?,k0];rfl
 have e1:t.getD 1 undef=v1:=by rw[Array.getD_eq_getD_getElem?,k1];rfl
 have e5:t.getD 5 undef=vi:=by rw[Array.getD_eq_getD_getElem?,k5];rfl
 have ht:=gx 25 t h2
 rw[←e0,←e1,←e5]
 exact congrArg (fun t=>({tmps:=t,defers:=[]}:Act)) ht
abbrev mF:Code:=av Tryz.f31
abbrev rD:Code:=a_ (aX mF 0)
abbrev ixP(n:Nat):Code:=bQ (ah n mF)
theorem XA:(Tryz.f31).body=some (.seq (ixP 0) (.seq (.seq (bQ (ixP 1)) (.block 0 (.loop rD))) (ah 2 mF))):=by kernel_rfl
theorem SI{w:World}{s x:U}{i:Nat}(h:¬i+x.size<=s.size)(hs:s.size<=17179869184)(hx:x.size<=17179869184)(hi:i<=34359738368)
 (a:Act)(hz:UE (.string s) (.string x) (.int .i64 i) a)(Q:Exit->Act->World->Prop)(hQ:∀a',UE (.string s) (.string x) (.int .i64 i) a'->Q (.exit 0) a' w):rD.wp Tryz.prog Q a w:=by
 obtain⟨y,rfl⟩:=hz.lit
 clear hz
 have hw:IntKind.i64.wrap ((i:Int)+(x.size:Int))=(i:Int)+(x.size:Int):=aG (by omega) (by omega)
 have h1:¬(i:Int)+(x.size:Int)<=(s.size:Int):=by omega
 simp only[rD,mF,av,Tryz.f31,Option.getD,aX,a_,cond,Nat.beq]
 go_wp2_with fail
 exact⟨rfl,rfl,rfl,rfl,rfl⟩
theorem SJ{w:World}{s x:U}{i:Nat}(h:i+x.size<=s.size)(hs:s.size<=17179869184)
 (a:Act)(hz:UE (.string s) (.string x) (.int .i64 i) a)(Q:Exit->Act->World->Prop)
 (h1:(s.extract i (i+x.size)).toList=x.toList->∀a',a'.defers=[]->a'.tmps[4]? =some (.int .i64 i)->Q .ret a' w)
 (h2:(s.extract i (i+x.size)).toList≠x.toList->∀a',UE (.string s) (.string x) (.int .i64 (i+1:Nat)) a'->Q .normal a' w):rD.wp Tryz.prog Q a w:=by
 obtain⟨y,rfl⟩:=hz.lit
 clear hz
 have hw:IntKind.i64.wrap ((i:Int)+(x.size:Int))=((i+x.size:Nat):Int):=by rw[show(i:Int)+(x.size:Int)=((i+x.size:Nat):Int)by omega];exact aG (by omega) (by omega)
 have Cs:IntKind.i64.wrap ((i:Int)+1)=((i+1:Nat):Int):=by rw[show(i:Int)+1=((i+1:Nat):Int)by omega];exact aG (by omega) (by omega)
 have k1:((i+x.size:Nat):Int)<=(s.size:Int):=by omega
 have k2:(0:Int)<=(i:Int):=by omega
 have k3:(i:Int)<=((i+x.size:Nat):Int):=by omega
 generalize hj:i+x.size=j at*
 by_cases he:(s.extract i j).toList=x.toList
 ·have h1:=h1 he
  clear h2
  have DQ:((s.extract i j).toList==x.toList)=true:=by simpa using he
  simp only[rD,mF,av,Tryz.f31,Option.getD,aX,a_,cond,Nat.beq]
  go_wp2_with fail
  all_goals exact h1 _ rfl rfl
 ·have h2:=h2 he
  clear h1
  have DQ:((s.extract i j).toList==x.toList)=false:=by simpa using he
  simp only[rD,mF,av,Tryz.f31,Option.getD,aX,a_,cond,Nat.beq]
  go_wp2_with fail
  all_goals exact⟨rfl,rfl,rfl,rfl,rfl⟩
theorem K1{w:World}{s x:U}(hs:s.size<=17179869184)(hx:x.size<=17179869184)(Q:Exit->Act->World->Prop):∀(d i:Nat) (a:Act),s.size+1<=i+d->i<=s.size+1->UE (.string s) (.string x) (.int .i64 i) a->
 (qs s x d i= -1->∀a (j:Nat),UE (.string s) (.string x) (.int .i64 j) a->Q .normal a w)->
 (∀a,a.defers=[]->a.tmps[4]? =some (.int .i64 (qs s x d i))->Q .ret a w)->
 Code.rounds Tryz.prog rD (Exit.inBlock 0 Q) (d+1) a w
 |0,i,a,hd,hi,hz,h1,h2=>by
  rw[rounds_succ]
  refine SI (by omega) hs hx (by omega) a hz _ (fun a' z'=>h1 rfl a' _ z')
 |d+1,i,a,hd,hi,hz,h1,h2=>by
  rw[rounds_succ]
  by_cases hp:i+x.size<=s.size
  ·simp only[qs,if_pos hp]at h1 h2
   refine SJ hp hs a hz _ (fun he a' d0 d4=> ?_) (fun he a' z'=> ?_)
   ·rw[if_pos he]at h2
    exact h2 a' d0 d4
   ·rw[if_neg he]at h1 h2
    exact K1 hs hx Q d (i+1) a' (by omega) (by omega) z' h1 h2
  ·refine SI hp hs hx (by omega) a hz _ (fun a' z'=>h1 (by simp only[qs,if_neg hp]) a' _ z')
theorem SN{w:World}{s x:U}(B C:Code)(Q:Exit->Act->World->Prop)
 (hQ:∀a,UE (.string s) (.string x) (.int .i64 (0:Nat)) a->B.wp Tryz.prog (Exit.then (fun a w=>C.wp Tryz.prog Q a w) Q) a w):
 (Code.seq (ixP 0) (.seq (.seq (bQ (ixP 1)) B) C)).wp Tryz.prog Q {tmps:=#[.string s,.string x]++Array.replicate 23 undef,defers:=[]} w:=by
 simp only[ixP,bQ,mF,av,Tryz.f31,Option.getD,ah,cO,Option.map,Array.replicate_succ,Array.replicate_zero,List.push_toArray,List.append_toArray,List.nil_append,List.cons_append]
 go_wp2_with fail
 rename_i K hK
 refine Code.wp_mono (fun e a w h=> ?_) (hQ _ ⟨rfl,rfl,rfl,rfl,rfl⟩)
 cases e<;>first|exact hK _ _ h|exact h
theorem XB{w:World}{v0 v1 vi:Value}(a:Act)(hz:UE v0 v1 vi a)(Q:Exit->Act->World->Prop)
 (hQ:∀a',a'.defers=[]->a'.tmps[4]? =some (.int .i64 (-1))->Q .ret a' w):(ah 2 mF).wp Tryz.prog Q a w:=by
 obtain⟨x,rfl⟩:=hz.lit
 clear hz
 simp only[mF,av,Tryz.f31,Option.getD,ah,cO,Option.map]
 go_wp2_with fail
 exact hQ _ rfl rfl
theorem oh(w:World)(s x:U)(hs:s.size<=17179869184)(hx:x.size<=17179869184):Calls Tryz.prog 31 #[.string s,.string x] w fun e w'=>e= .returned (.int .i64 (gM s x))∧w'=w:=by
 refine calls_of_wp Tryz.func31 XA ?_
 have yV:(Tryz.f31).ntmps-(#[.string s,.string x]:Array Value).size=23:=by kernel_rfl
 rw[yV]
 refine SN _ _ _ (fun a z=> ?_)
 refine wp_block (wp_loop_rounds (s.size+1+1) ?_)
 refine K1 hs hx _ (s.size+1) 0 a (by omega) (by omega) z (fun hf a2 j z2=> ?_) (fun a2 d0 d4=> ?_)
 ·show(ah 2 mF).wp _ _ a2 w
  exact XB a2 z2 _ (fun a3 d0 d4=>⟨d0,_,bK (k:=4) (by kernel_rfl) d4,by unfold gM;rw[hf],rfl⟩)
 ·exact⟨d0,_,bK (k:=4) (by kernel_rfl) d4,rfl,rfl⟩
theorem N8{w:World}{ea:Addr}(hG:oU w ea)(c:Int)(h0: -2147483648<=c)(h1:c<=2147483647):Calls Tryz.prog 38 #[.int .i32 c] w fun e w'=>e= .returned (.bool (iO c))∧Below w.heap.size w w':=by
 have hL:=Tryz.unicode_IsLetter_all c w h0 h1 hG.props hG.letter
 unfold iO
 by_cases h:c=95
 ·subst h
  go_enter Tryz.func38,Tryz.ntmps38
  go_wp2_with fail
  exact⟨rfl,_,bK (k:=2) (by kernel_rfl) rfl,by simp,Below.refl _ _⟩
 ·have h':(c==95)=false:=by simpa using h
  go_enter Tryz.func38,Tryz.ntmps38
  go_wp2_with (go_at_call 53;refine hL.mono ?_;rintro en w1 ⟨rfl,oA⟩)
  exact⟨rfl,_,bK (k:=2) (by kernel_rfl) rfl,by simp[h'],oA⟩
theorem N9{w:World}{ea:Addr}(hG:oU w ea)(c:Int)(h0: -2147483648<=c)(h1:c<=2147483647):Calls Tryz.prog 54 #[.int .i32 c] w fun e w'=>e= .returned (.bool (isDigitU c))∧Below w.heap.size w w':=
 Tryz.unicode_IsDigit_all c w h0 h1 hG.digit
theorem zi(w:World)(s:U)(hs:s.size<=8589934592):Calls Tryz.prog 55 #[.string s] w fun e w'=>e= .returned (.bool (gY s))∧w'=w:=by
 have hI:=fun w=>cX w s 32
 rw[show(32:Int).toNat.toUInt8=32 from rfl]at hI
 have hX:=fun w=>oh w FV (⟨#[32]⟩++s++⟨#[32]⟩) (by decide) (by rw[fB,fB];show 1+s.size+1<=17179869184;omega)
 have hf:gY s=(!s.toList.isEmpty&&decide (Lib.indexByte s.data.toList 32<0)&&decide (0<=gM FV (⟨#[32]⟩++s++⟨#[32]⟩))):=rfl
 generalize gM FV (⟨#[32]⟩++s++⟨#[32]⟩)=ix at hX hf
 generalize Lib.indexByte s.data.toList 32=ib at hI hf
 generalize gY s=r at hf⊢
 unfold FV at hX
 subst hf
 cases he:s.toList.isEmpty
 ·by_cases hb:ib<0
  ·go_enter Tryz.func55,Tryz.ntmps55
   go_wp2_with (first
    |(go_at_call 22;refine(hI _).mono ?_;rintro en w1 ⟨rfl,rfl⟩)
    |(go_at_call 31;refine(hX _).mono ?_;rintro en w2 ⟨rfl,rfl⟩))
   all_goals exact⟨rfl,_,bK (k:=2) (by kernel_rfl) rfl,by simp[hb],rfl⟩
  ·go_enter Tryz.func55,Tryz.ntmps55
   go_wp2_with (first
    |(go_at_call 22;refine(hI _).mono ?_;rintro en w1 ⟨rfl,rfl⟩)
    |(go_at_call 31;refine(hX _).mono ?_;rintro en w2 ⟨rfl,rfl⟩))
   all_goals exact⟨rfl,_,bK (k:=2) (by kernel_rfl) rfl,by simp;omega,rfl⟩
 ·go_enter Tryz.func55,Tryz.ntmps55
  go_wp2_with (first
   |(go_at_call 22;refine(hI _).mono ?_;rintro en w1 ⟨rfl,rfl⟩)
   |(go_at_call 31;refine(hX _).mono ?_;rintro en w2 ⟨rfl,rfl⟩))
  all_goals exact⟨rfl,_,bK (k:=2) (by kernel_rfl) rfl,by simp,rfl⟩
structure SNm(v0 vi:Value)(a:Act):Prop where
 defers:a.defers=[]
 size:a.tmps.size=34
 s0:a.tmps[0]? =some v0
 s6:a.tmps[6]? =some vi
theorem SNm.lit{v0 vi:Value}{a:Act}(h:SNm v0 vi a):∃x:Nat->Value,a={tmps:=#[v0,x 1,x 2,x 3,x 4,x 5,vi,x 7,x 8,x 9,x 10,x 11,x 12,x 13,x 14,x 15,x 16,x 17,x 18,x 19,x 20,x 21,x 22,x 23,x 24,x 25,x 26,x 27,x 28,x 29,x 30,x 31,x 32,x 33],defers:=[]}:=by
 refine⟨fun i=>a.tmps.getD i undef,?_⟩
 obtain⟨t,d⟩:=a
 obtain⟨h1,h2,k0,k6⟩:=h
 simp only at h1 h2 k0 k6
 subst h1
 have e0:t.getD 0 undef=v0:=by rw[Array.getD_eq_getD_getElem?,k0];rfl
 have e6:t.getD 6 undef=vi:=by rw[Array.getD_eq_getD_getElem?,k6];rfl
 have ht:=gx 34 t h2
 rw[←e0,←e6]
 exact congrArg (fun t=>({tmps:=t,defers:=[]}:Act)) ht
theorem je(w:World)(s d:U)(hs:s.size<=8589934592)(hd:d.size<=1000):Calls Tryz.prog 80 #[.string s,.string d] w fun e w'=>e= .returned (.bool (cC s d))∧w'=w:=by
 have hA:=fun w=>ry w s (d++⟨#[95]⟩) (by omega)
 have hX:=fun w=>oh w s rB (by omega) (by decide)
 have hf:cC s d=(gO s (d++⟨#[95]⟩)&&(((s.get! 0).toNat != 95)&&(((s.get! (s.size-1)).toNat != 95)&&decide (gM s rB<0)))):=rfl
 have dH:gO s (d++⟨#[95]⟩)=true->s.size≠0:=fun h=>(BL.1 h).2
 generalize gM s rB=ix at hX hf
 generalize gO s (d++⟨#[95]⟩)=al at hA hf dH
 generalize cC s d=r at hf⊢
 unfold rB at hX
 subst hf
 cases al with
 |false=>
  go_enter Tryz.func80,Tryz.ntmps80
  go_wp2_with (go_at_call 81;refine(hA _).mono ?_;rintro en w1 ⟨rfl,rfl⟩)
  all_goals exact⟨rfl,_,bK (k:=4) (by kernel_rfl) rfl,rfl,rfl⟩
 |true=>
  have h0:s.size≠0:=dH rfl
  clear dH
  have k0:0<s.size:=by omega
  have k1:(0:Int)<(s.size:Int):=by omega
  have kw:IntKind.i64.wrap ((s.size:Int)-1)=((s.size-1:Nat):Int):=by rw[show(s.size:Int)-1=((s.size-1:Nat):Int)by omega];exact aG (by omega) (by omega)
  have k2:(0:Int)<=((s.size-1:Nat):Int):=by omega
  have k3:((s.size-1:Nat):Int)<(s.size:Int):=by omega
  have k4:s.size-1<s.size:=by omega
  rw[dP s 0 k0,dP s (s.size-1) k4]
  generalize s.size-1=j at kw k2 k3 k4⊢
  by_cases b0:s[0].toNat=95
  ·have b0':(((s[0].toNat:Nat):Int) != 95)=false:=by simp[b0]
   go_enter Tryz.func80,Tryz.ntmps80
   go_wp2_with (go_at_call 81;refine(hA _).mono ?_;rintro en w1 ⟨rfl,rfl⟩)
   all_goals exact⟨rfl,_,bK (k:=4) (by kernel_rfl) rfl,by simp[b0],rfl⟩
  ·have b0':(((s[0].toNat:Nat):Int) != 95)=true:=by simp;omega
   by_cases b1:s[j].toNat=95
   ·have b1':(((s[j].toNat:Nat):Int) != 95)=false:=by simp[b1]
    go_enter Tryz.func80,Tryz.ntmps80
    go_wp2_with (go_at_call 81;refine(hA _).mono ?_;rintro en w1 ⟨rfl,rfl⟩)
    all_goals exact⟨rfl,_,bK (k:=4) (by kernel_rfl) rfl,by simp[b0,b1],rfl⟩
   ·have b1':(((s[j].toNat:Nat):Int) != 95)=true:=by simp;omega
    go_enter Tryz.func80,Tryz.ntmps80
    go_wp2_with (first
     |(go_at_call 81;refine(hA _).mono ?_;rintro en w1 ⟨rfl,rfl⟩)
     |(go_at_call 31;refine(hX _).mono ?_;rintro en w2 ⟨rfl,rfl⟩))
    all_goals exact⟨rfl,_,bK (k:=4) (by kernel_rfl) rfl,by rw[bne_iff_ne.2 b0,bne_iff_ne.2 b1];rfl,rfl⟩
structure UF(v0 v1 vi:Value)(a:Act):Prop where
 defers:a.defers=[]
 size:a.tmps.size=28
 s0:a.tmps[0]? =some v0
 s1:a.tmps[1]? =some v1
 s7:a.tmps[7]? =some vi
theorem UF.lit{v0 v1 vi:Value}{a:Act}(h:UF v0 v1 vi a):∃x:Nat->Value,a={tmps:=#[v0,v1,x 2,x 3,x 4,x 5,x 6,vi,x 8,x 9,x 10,x 11,x 12,x 13,x 14,x 15,x 16,x 17,x 18,x 19,x 20,x 21,x 22,x 23,x 24,x 25,x 26,x 27],defers:=[]}:=by
 refine⟨fun i=>a.tmps.getD i undef,?_⟩
 obtain⟨t,d⟩:=a
 obtain⟨h1,h2,k0,k1,k7⟩:=h
 simp only at h1 h2 k0 k1 k7
 subst h1
 have e0:t.getD 0 undef=v0:=by rw[Array.getD_eq_getD_getElem?,k0];rfl
 have e1:t.getD 1 undef=v1:=by rw[Array.getD_eq_getD_getElem?,k1];rfl
 have e7:t.getD 7 undef=vi:=by rw[Array.getD_eq_getD_getElem?,k7];rfl
 have ht:=gx 28 t h2
 rw[←e0,←e1,←e7]
 exact congrArg (fun t=>({tmps:=t,defers:=[]}:Act)) ht
abbrev mG:Code:=av Tryz.f107
abbrev rE:Code:=a_ (aX mG 0)
abbrev cuP(n:Nat):Code:=bQ (ah n mG)
theorem XC:(Tryz.f107).body=some (.seq (cuP 0) (.seq (.seq (bQ (cuP 1)) (.block 0 (.loop rE))) (ah 2 mG))):=by kernel_rfl
theorem SP{a:Act}{w:World}{v ve vf:Value}(h4:a.tmps[4]? =some v)(h5:a.tmps[5]? =some ve)(h6:a.tmps[6]? =some vf):(results Tryz.f107 a.tmps).run Tryz.prog w= .ok (.tuple #[v,ve,vf]) w:=by
 have e:(Tryz.f107).results=#[.tmp 4,.tmp 5,.tmp 6]:=by kernel_rfl
 simp[results,e,h4,h5,h6,go_sem]
theorem SR{w:World}{s b:U}{i:Nat}(h:¬i<s.size)
 (a:Act)(hz:UF (.string s) (.string b) (.int .i64 i) a)(Q:Exit->Act->World->Prop)(hQ:∀a',UF (.string s) (.string b) (.int .i64 i) a'->Q (.exit 0) a' w):rE.wp Tryz.prog Q a w:=by
 obtain⟨y,rfl⟩:=hz.lit
 clear hz
 have h1:¬(i:Int)<(s.size:Int):=by omega
 simp only[rE,mG,av,Tryz.f107,Option.getD,aX,a_,cond,Nat.beq]
 go_wp2_with fail
 exact⟨rfl,rfl,rfl,rfl,rfl⟩
theorem SS{w:World}{s b:U}{i:Nat}(h:i<s.size)(hs:s.size<=8589934592)
 (a:Act)(hz:UF (.string s) (.string b) (.int .i64 i) a)(Q:Exit->Act->World->Prop)
 (h1:cJ b (s.get! i)=true->∀a' w',Below w.heap.size w w'->a'.defers=[]->a'.tmps[4]? =some (.string (s.extract 0 i))->a'.tmps[5]? =some (.string (s.extract (i+1) s.size))->a'.tmps[6]? =some (.bool true)->Q .ret a' w')
 (h2:cJ b (s.get! i)=false->∀a',UF (.string s) (.string b) (.int .i64 (i+1:Nat)) a'->Q .normal a' w):rE.wp Tryz.prog Q a w:=by
 obtain⟨y,rfl⟩:=hz.lit
 clear hz
 have Cs:IntKind.i64.wrap ((i:Int)+1)=((i+1:Nat):Int):=by rw[show(i:Int)+1=((i+1:Nat):Int)by omega];exact aG (by omega) (by omega)
 have k1:(i:Int)<(s.size:Int):=by omega
 have k2:(0:Int)<=(i:Int):=by omega
 have k4:(i:Int)<=(s.size:Int):=by omega
 have k5:((i+1:Nat):Int)<=(s.size:Int):=by omega
 have k6:(0:Int)<=((i+1:Nat):Int):=by omega
 rw[dP s i h]at h1 h2
 have hI:=fun w=>cX w b ((s[i].toNat:Nat):Int)
 rw[show(((s[i].toNat:Nat):Int)).toNat.toUInt8=s[i]by simp]at hI
 unfold cJ at h1 h2
 generalize Lib.indexByte b.data.toList s[i]=ix at hI h1 h2
 by_cases he:0<=ix
 ·have g1:=h1 (by simpa using he)
  have DQ:¬ix<0:=by omega
  clear h1 h2
  simp only[rE,mG,av,Tryz.f107,Option.getD,aX,a_,cond,Nat.beq]
  go_wp2_with (go_at_call 22;refine(hI _).mono ?_;rintro en w1 ⟨rfl,rfl⟩)
  all_goals try (go_quiet (fail))
  all_goals (go_wp2_with fail)
  all_goals exact g1 _ _ (below_drewN _ _ _) rfl rfl rfl rfl
 ·have g2:=h2 (by simpa using he)
  clear h1 h2
  simp only[rE,mG,av,Tryz.f107,Option.getD,aX,a_,cond,Nat.beq]
  go_wp2_with (go_at_call 22;refine(hI _).mono ?_;rintro en w1 ⟨rfl,rfl⟩)
  all_goals exact⟨rfl,rfl,rfl,rfl,rfl⟩
theorem K2{w:World}{s b:U}(hs:s.size<=8589934592)(Q:Exit->Act->World->Prop):∀(d i:Nat) (a:Act),s.size<=i+d->i<=s.size->UF (.string s) (.string b) (.int .i64 i) a->
 (iL s b d i=(s,⟨#[]⟩,false)->∀a (j:Nat),UF (.string s) (.string b) (.int .i64 j) a->Q .normal a w)->
 (∀a w',Below w.heap.size w w'->a.defers=[]->a.tmps[4]? =some (.string (iL s b d i).1)->a.tmps[5]? =some (.string (iL s b d i).2.1)->a.tmps[6]? =some (.bool (iL s b d i).2.2)->Q .ret a w')->
 Code.rounds Tryz.prog rE (Exit.inBlock 0 Q) (d+1) a w
 |0,i,a,hd,hi,hz,h1,h2=>by
  rw[rounds_succ]
  exact SR (by omega) a hz _ (fun a' z'=>h1 rfl a' _ z')
 |d+1,i,a,hd,hi,hz,h1,h2=>by
  rw[rounds_succ]
  by_cases hp:i<s.size
  ·simp only[iL,if_pos hp]at h1 h2
   refine SS hp hs a hz _ (fun he a' w' b' d0 d4 d5 d6=> ?_) (fun he a' z'=> ?_)
   ·rw[if_pos he]at h2
    exact h2 a' w' b' d0 d4 d5 d6
   ·rw[if_neg (by rw[he];decide)]at h1 h2
    exact K2 hs Q d (i+1) a' (by omega) (by omega) z' h1 h2
  ·exact SR hp a hz _ (fun a' z'=>h1 (by simp only[iL,if_neg hp]) a' _ z')
theorem SU{w:World}{s b:U}(B C:Code)(Q:Exit->Act->World->Prop)
 (hQ:∀a,UF (.string s) (.string b) (.int .i64 (0:Nat)) a->B.wp Tryz.prog (Exit.then (fun a w=>C.wp Tryz.prog Q a w) Q) a w):
 (Code.seq (cuP 0) (.seq (.seq (bQ (cuP 1)) B) C)).wp Tryz.prog Q {tmps:=#[.string s,.string b]++Array.replicate 26 undef,defers:=[]} w:=by
 simp only[cuP,bQ,mG,av,Tryz.f107,Option.getD,ah,cO,Option.map,Array.replicate_succ,Array.replicate_zero,List.push_toArray,List.append_toArray,List.nil_append,List.cons_append]
 go_wp2_with fail
 rename_i K hK
 refine Code.wp_mono (fun e a w h=> ?_) (hQ _ ⟨rfl,rfl,rfl,rfl,rfl⟩)
 cases e<;>first|exact hK _ _ h|exact h
theorem XD{w:World}{s:U}{v1 vi:Value}(a:Act)(hz:UF (.string s) v1 vi a)(Q:Exit->Act->World->Prop)
 (hQ:∀a',a'.defers=[]->a'.tmps[4]? =some (.string s)->a'.tmps[5]? =some (.string ⟨#[]⟩)->a'.tmps[6]? =some (.bool false)->Q .ret a' w):(ah 2 mG).wp Tryz.prog Q a w:=by
 obtain⟨x,rfl⟩:=hz.lit
 clear hz
 simp only[mG,av,Tryz.f107,Option.getD,ah,cO,Option.map]
 go_wp2_with fail
 exact hQ _ rfl rfl rfl rfl
theorem tP(w:World)(s b:U)(hs:s.size<=8589934592):Calls Tryz.prog 107 #[.string s,.string b] w fun e w'=>e= .returned (.tuple #[.string (dQ s b).1,.string (dQ s b).2.1,.bool (dQ s b).2.2])∧Below w.heap.size w w':=by
 refine calls_of_wp Tryz.func107 XC ?_
 have yV:(Tryz.f107).ntmps-(#[.string s,.string b]:Array Value).size=26:=by kernel_rfl
 rw[yV]
 refine SU _ _ _ (fun a z=> ?_)
 refine wp_block (wp_loop_rounds (s.size+1) ?_)
 refine K2 hs _ s.size 0 a (by omega) (Nat.zero_le _) z (fun hf a2 j z2=> ?_) (fun a2 w2 b2 d0 d4 d5 d6=> ?_)
 ·show(ah 2 mG).wp _ _ a2 w
  have hf:dQ s b=(s,⟨#[]⟩,false):=hf
  exact XD a2 z2 _ (fun a3 d0 d4 d5 d6=>⟨d0,_,SP d4 d5 d6,by rw[hf],Below.refl _ _⟩)
 ·exact⟨d0,_,SP d4 d5 d6,rfl,b2⟩
end
end Sc
end Go.Proofs.YtogkcphobhhbdaaGreatDoor
