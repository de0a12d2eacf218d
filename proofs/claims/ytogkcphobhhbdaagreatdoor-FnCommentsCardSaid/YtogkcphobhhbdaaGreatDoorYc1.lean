/- The scanner of the program told as plain functions, part 1: texts joined and shortened by a program (wip/tools/mini.py). -/
import Derived.Laws.BytesArg
import Derived.WalkKit
import Derived.StillTail
import Derived.KernelRfl
import Derived.Shelf.Abstract
import Derived.Laws.CopyRow
set_option linter.unusedVariables false
set_option linter.unusedSimpArgs false
set_option maxHeartbeats 32000000
namespace Go.Proofs
abbrev U:=ByteArray
end Go.Proofs
namespace Go.Proofs.YtogkcphobhhbdaaGreatDoor
open Go Go.RowKit
namespace Ev
noncomputable section
inductive SV where
 |val (v:Value)
 |tt
 |ff
 |st (o:Nat)
 |box (i:Nat)
 |fn (i:Nat)
 |fG (bs:U)
 |DV (bs:U) (i:Nat)
 |obj (i:Nat)
 |ifc
 |jk
 |two (a b:SV)
 |dp (i:Nat)
 |ds (o n c:Nat) deriving Inhabited
inductive af(α:Type) where
 |ae (a:α)
 |aj (b:Bool) (t e:af α)
 |aY (p:Prop) (k:af α)
 |any (t e:af α)
 |fail
def af.bind{α β:Type}:af α->(α->af β)->af β
 | .ae a,f=>f a
 | .aj b t e,f=> .aj b (t.bind f) (e.bind f)
 | .aY p k,f=> .aY p (k.bind f)
 | .any t e,f=> .any (t.bind f) (e.bind f)
 | .fail,_=> .fail
def af.aD{α:Type}:af α->(α->Prop)->Prop
 | .ae a,Q=>Q a
 | .aj b t e,Q=>(b=true->t.aD Q)∧(b=false->e.aD Q)
 | .aY p k,Q=>p∧k.aD Q
 | .any t e,Q=>t.aD Q∧e.aD Q
 | .fail,_=>False
theorem ax{α β:Type}(t:af α)(f:α->af β)(Q:β->Prop):(t.bind f).aD Q↔t.aD (fun a=>(f a).aD Q):=by
 induction t with
 |ae a=>rfl
 |aj b t e iQ jH=>simp only[af.bind,af.aD,iQ,jH]
 |aY p k ih=>simp only[af.bind,af.aD,ih]
 |any t e iQ jH=>simp only[af.bind,af.aD,iQ,jH]
 |fail=>rfl
theorem an{α:Type}{t:af α}{Q Q':α->Prop}(h:t.aD Q)(hq:∀a,Q a->Q' a):t.aD Q':=by
 induction t with
 |ae a=>exact hq _ h
 |aj b t e iQ jH=>exact⟨fun hb=>iQ (h.1 hb),fun hb=>jH (h.2 hb)⟩
 |aY p k ih=>exact⟨h.1,ih h.2⟩
 |any t e iQ jH=>exact⟨iQ h.1,jH h.2⟩
 |fail=>exact h
theorem O3{α:Type}{t:af α}{Q:α->Prop}(h:t.aD Q):∃a,Q a:=by
 induction t with
 |ae a=>exact⟨a,h⟩
 |aj b t e iQ jH=>cases b;exact jH (h.2 rfl);exact iQ (h.1 rfl)
 |aY p k ih=>exact ih h.2
 |any t e iQ jH=>exact iQ h.1
 |fail=>exact h.elim
structure Sys where
 P:Program
 σ:Type
 S:Nat
 B:Nat
 get:σ->Nat->Option SV
 set:σ->Nat->SV->Option σ
 fnv:Nat->Value
 Inv:σ->World->Prop
 jo:Nat->Option TypeId->Prop
 ik:TypeId->Option IntKind
 one:TypeId->Bool
 fo:TypeId->Nat->Option Nat
 isStr:TypeId->Bool
 lL:TypeId->Bool
 Ap:TypeId->Bool
 vg:TypeId->Bool
 sle:TypeId->Prop
 eM:σ->Prop
 xr:Nat->Value
 jU:Nat->Option SV
 UK:TypeId->Bool
 D:Nat
 qm:σ->Nat->SV->Option σ
 JR:σ->Nat->Nat->Nat->Option σ
 OO:σ->Nat->Prop
 OP:σ->Nat->Nat->Nat->Prop
structure aq(Y:Sys) where
 st:Y.σ
 bx:List Value
structure E(Y:Sys) where
 c:aq Y
 tm:List (Nat×SV)
def look:List (Nat×SV)->Nat->SV
 |[],_=> .jk
 |(j,v)::r,i=>bif Nat.beq i j then v else look r i
theorem aF(j:Nat)(v:SV)(r:List (Nat×SV))(i:Nat):look ((j,v)::r) i=if i=j then v else look r i:=by
 show(bif Nat.beq i j then v else look r i)=_
 by_cases h:i=j
 ·subst h;simp
 ·have:Nat.beq i j=false:=by
   cases hb:Nat.beq i j with
   |false=>rfl
   |true=>exact absurd (Nat.eq_of_beq_eq_true hb) h
  simp[this,h]
def ofConst:Value->SV
 | .bool true=> .tt
 | .bool false=> .ff
 |v=> .val v
def fj(tm:List (Nat×SV)):Operand->SV
 | .tmp t=>look tm t
 | .const v=>ofConst v
 | .global g=> .val (.pointer (some ⟨g,0,none⟩))
 | .func f=> .val (.func (.func f) #[] #[])
def iE:SV->Option Value
 | .val v=>some v
 | .tt=>some (.bool true)
 | .ff=>some (.bool false)
 |_=>none
def nw(Y:Sys):SV->Value->Prop
 | .val u,v=>v=u
 | .tt,v=>v= .bool true
 | .ff,v=>v= .bool false
 | .fn i,v=>v=Y.fnv i
 | .obj i,v=>v=Y.xr i
 | .jk,_=>True
 |_,_=>False
def Rel(Y:Sys)(bl:List Nat)(w:World):SV->Value->Prop
 | .val u,v=>v=u
 | .tt,v=>v= .bool true
 | .ff,v=>v= .bool false
 | .fn i,v=>v=Y.fnv i
 | .obj i,v=>v=Y.xr i
 | .jk,_=>True
 | .st o,v=>v= .pointer (some ⟨Y.S,o,none⟩)
 | .box i,v=>∃b,bl[i]? =some b∧v= .pointer (some ⟨b,0,none⟩)
 | .fG bs,v=>∃o cap,bs.size<=cap∧v= .slice (some ⟨Y.B,o,none⟩) bs.size cap∧∀j,j<bs.size->w.cell? ⟨Y.B,o+j,none⟩=some (.int .u8 (bs.get! j).toNat)
 | .DV bs i,v=>∃o,v= .pointer (some ⟨Y.B,o,none⟩)∧w.cell? ⟨Y.B,o,none⟩=some (.int .u8 (bs.get! i).toNat)
 | .ifc,v=>∃t x,v= .iface t x
 | .two a b,v=>∃x y,v= .tuple #[x,y]∧nw Y a x∧nw Y b y
 | .dp i,v=>v= .pointer (some ⟨Y.D,i,none⟩)
 | .ds o n c,v=>v= .slice (some ⟨Y.D,o,none⟩) n c
theorem nw.rel{Y:Sys}{sv:SV}{v:Value}(h:nw Y sv v)(bl:List Nat)(w:World):Rel Y bl w sv v:=by
 cases sv<;>first|exact h|exact h.elim
theorem fs{Y:Sys}{bl:List Nat}{w:World}{sv:SV}{v u:Value}(h:Rel Y bl w sv v)(hu:iE sv=some u):v=u:=by
 cases sv<;>simp only[iE,Option.some.injEq,reduceCtorEq]at hu<;>subst hu<;>exact h
theorem DW{Y:Sys}{bl:List Nat}{w:World}(v:Value):Rel Y bl w (ofConst v) v:=by
 unfold ofConst
 split<;>rfl
def ij(w:World)(k:Nat):Option TypeId:=(w.shape? k).map (·.1)
structure fu(Y:Sys)(bl:List Nat)(c:aq Y)(w:World):Prop where
 inv:Y.Inv c.st w
 len:bl.length=c.bx.length
 nd:bl.Nodup
 cell:∀(i b:Nat) (u:Value),bl[i]? =some b->c.bx[i]? =some u->w.cell? ⟨b,0,none⟩=some u∧w.frozen? ⟨b,0,none⟩=false
 free:∀b∈bl,¬Y.jo b (ij w b)∧b<w.heap.size
structure cL(Y:Sys)(N:Nat)(e:E Y)(bl:List Nat)(a:Act)(w:World):Prop where
 core:fu Y bl e.c w
 defers:a.defers=[]
 size:a.tmps.size=N
 rel:∀i,Rel Y bl w (look e.tm i) (a.tmps.getD i undef)
structure Fr(Y:Sys)(bl:List Nat)(w w':World):Prop where
 os:w'.os=w.os
 tape:w'.tape=w.tape
 output:w'.output=w.output
 size:w.heap.size<=w'.heap.size
 ty:∀k,k<w.heap.size->ij w' k=ij w k
 bm:∀k,k<w.heap.size->¬Y.jo k (ij w k)->k∉bl->w'.heap[k]? =w.heap[k]?
structure Ext(Y:Sys)(bl dw:List Nat)(w w':World):Prop where
 fr:Fr Y bl w w'
 pre:bl<+:dw
 new:∀b∈dw,b∈bl∨w.heap.size<=b
theorem Fr.refl(Y:Sys)(bl:List Nat)(w:World):Fr Y bl w w:=⟨rfl,rfl,rfl,Nat.le_refl _,fun _ _=>rfl,fun _ _ _ _=>rfl⟩
theorem Ext.refl(Y:Sys)(bl:List Nat)(w:World):Ext Y bl bl w w:=⟨Fr.refl _ _ _,List.prefix_refl _,fun _ h=> .inl h⟩
theorem Ext.trans{Y:Sys}{b0 b1 b2:List Nat}{w0 w1 w2:World}(h:Ext Y b0 b1 w0 w1)(h':Ext Y b1 b2 w1 w2):Ext Y b0 b2 w0 w2:=by
 refine⟨⟨h'.fr.os.trans h.fr.os,h'.fr.tape.trans h.fr.tape,h'.fr.output.trans h.fr.output,Nat.le_trans h.fr.size h'.fr.size,fun k hk=> ?_,fun k hk ht hb=> ?_⟩,h.pre.trans h'.pre,fun b hb=> ?_⟩
 ·rw[h'.fr.ty k (Nat.lt_of_lt_of_le hk h.fr.size),h.fr.ty k hk]
 ·rw[h'.fr.bm k (Nat.lt_of_lt_of_le hk h.fr.size) (by rw[h.fr.ty k hk];exact ht) ?_,h.fr.bm k hk ht hb]
  intro hm
  rcases h.new k hm with h1|h1
  ·exact hb h1
  ·exact absurd hk (Nat.not_lt.2 h1)
 ·rcases h'.new b hb with h1|h1
  ·exact h.new b h1
  ·exact .inr (Nat.le_trans h.fr.size h1)
def storable:SV->Bool
 | .val _=>true
 | .tt=>true
 | .ff=>true
 | .fn _=>true
 | .obj _=>true
 | .jk=>true
 |_=>false
structure Laws(Y:Sys):Prop where
 xt:∀{st w o sv},Y.Inv st w->Y.get st o=some sv->∃v,w.cell? ⟨Y.S,o,none⟩=some v∧∀bl,Rel Y bl w sv v
 B7:∀{st w g sv},Y.Inv st w->Y.jU g=some sv->∃v,w.cell? ⟨g,0,none⟩=some v∧nw Y sv v
 wE:∀{t},Y.UK t=true->∀i w,(binOp .eql t (Y.xr i) .nilIface).run Y.P w= .ok (.bool false) w∧(binOp .neq t (Y.xr i) .nilIface).run Y.P w= .ok (.bool true) w
 xu:∀{t},Y.UK t=true->∀i w,(binOp .neq t (Y.xr i) (Y.xr i)).run Y.P w= .ok (.bool false) w
 wF:∀{t},Y.UK t=true->∀w,(binOp .eql t .nilIface .nilIface).run Y.P w= .ok (.bool true) w∧(binOp .neq t .nilIface .nilIface).run Y.P w= .ok (.bool false) w
 xv:∀i,∃t x,Y.xr i= .iface t x
 xw:∀{st aO w o sv v},Y.Inv st w->Y.set st o sv=some aO->nw Y sv v->
  (∃u,w.cell? ⟨Y.S,o,none⟩=some u)∧w.frozen? ⟨Y.S,o,none⟩=false∧v.cells=#[v]∧(∀l,v≠ .tuple l)∧(∀l,v≠ .agg l)∧Y.Inv aO (w.setCell ⟨Y.S,o,none⟩ v)
 B8:∀{st aO o sv},Y.set st o sv=some aO->Y.eM st->Y.eM aO
 kg:∀{st aO o sv},Y.set st o sv=some aO->storable sv=false->False
 ud:∀{st w b v},Y.Inv st w->¬Y.jo b (ij w b)->Y.Inv st (w.setCell ⟨b,0,none⟩ v)
 ue:∀{st w},Y.Inv st w->∀(c:Array Value) (t:TypeId),Y.sle t∨t=3->Y.Inv st (w.alloc (.cells c t))
 xx:∀{st w},Y.Inv st w->Y.Inv st w.drew
 lt:∀{st w},Y.Inv st w->Y.S<w.heap.size∧Y.B<w.heap.size
 ne:Y.S≠Y.B
 tS:∀t,Y.jo Y.S t
 tB:∀t,Y.jo Y.B t
 rU:∀{st aO w i sv v},Y.Inv st w->Y.qm st i sv=some aO->Y.OO st i->nw Y sv v->
  (∃u,w.cell? ⟨Y.D,i,none⟩=some u)∧w.frozen? ⟨Y.D,i,none⟩=false∧v.cells=#[v]∧(∀l,v≠ .tuple l)∧(∀l,v≠ .agg l)∧Y.Inv aO (w.setCell ⟨Y.D,i,none⟩ v)∧(∀t,Y.jo Y.D t)∧Y.D≠Y.B
 xy:∀{st aO i sv},Y.qm st i sv=some aO->Y.eM st->Y.eM aO
 h_:∀{st aO i sv},Y.qm st i sv=some aO->storable sv=false->False
 xz:∀{st aO w o so n},Y.Inv st w->Y.JR st o so n=some aO->Y.OP st o so n->∃(cur:Array Value) (t:TypeId) (cs:List Value),w.heap[Y.D]? =some (.cells cur t (0,0))∧cs.length=n∧
  (∀j v,cs[j]? =some v->w.cell? ⟨Y.D,so+j,none⟩=some v)∧o+n<=cur.size∧(∀v∈cs,v.oneCell'=true)∧
  Y.Inv aO (w.setRow Y.D (cur.toList.take o++(cs++cur.toList.drop (o+cs.length))).toArray)∧(∀t,Y.jo Y.D t)∧Y.D≠Y.B
 B9:∀{st aO o so n},Y.JR st o so n=some aO->Y.eM st->Y.eM aO
 Z0:∀{st w},Y.Inv st w->¬Y.jo w.heap.size (some 3)
 Aq:∀w,(Instr.alloc 3 true (.tuple #[])).run Y.P w= .ok (.pointer (some ⟨w.heap.size,0,none⟩)) (w.alloc (.cells #[.int .i64 0] 3))
 adj:Y.one 3=true
 mixed:Y.P.follows .mixedOrders=true
 xA:∀{t k},Y.ik t=some k->Y.P.underlying t=some (.int k)
 qK:∀{t},Y.one t=true->(∀w,(isAgg t).run Y.P w= .ok false w)∧(∀w,(sizeOf t).run Y.P w= .ok 1 w)
 DX:∀{s f o},Y.fo s f=some o->∀b n w,(Instr.fieldAt s (.pointer (some ⟨b,n,none⟩)) f).run Y.P w= .ok (.pointer (some ⟨b,n+o,none⟩)) w
 mn:∀{t},Y.isStr t=true->Y.P.underlying t=some .string
 qu:∀{t},Y.lL t=true->∃e,Y.P.underlying t=some (.slice e)∧Y.P.underlying e=some (.int .u8)∧(∀w,(sizeOf e).run Y.P w= .ok 1 w)
 Hr:∀{t},Y.lL t=true->∀e,Y.P.underlying t=some (.slice e)->(Y.P.info? e).map (·.size)=some 1
 O4:∀{t},Y.Ap t=true->∀x w,(Instr.makeInterface t x).run Y.P w= .ok (.iface t x) w
 JS:∀{t},Y.vg t=true->∀(vs:List Value),(∀v∈vs,∃t x,v= .iface t x)->vs.length<=2->0<vs.length->∀w,
  ∃c e,Y.sle e∧(Instr.buildSlice t vs.length (vs.zipIdx.map fun p=>(p.2,p.1)).toArray).run Y.P w= .ok (.slice (some ⟨w.heap.size,0,none⟩) vs.length vs.length) (w.alloc (.cells c e))
theorem B_{Y:Sys}{bl:List Nat}{w:World}{tm:List (Nat×SV)}{a:Act}(h:∀i,Rel Y bl w (look tm i) (a.tmps.getD i undef))(x:Operand):Rel Y bl w (fj tm x) (a.eval x):=by
 cases x with
 |tmp t=>exact h t
 |const v=>exact DW v
 |global g=>rfl
 |func f=>rfl
def wG(op:BinOp)(k:IntKind)(a b:Int):af SV:=
 match op with
 | .add=> .ae (.val (.int k (k.wrap (a+b))))
 | .sub=> .ae (.val (.int k (k.wrap (a-b))))
 | .mul=> .ae (.val (.int k (k.wrap (a*b))))
 | .quo=> .aY (¬b=0) (.ae (.val (.int k (k.wrap (a.tdiv b)))))
 | .rem=> .aY (¬b=0) (.ae (.val (.int k (a.tmod b))))
 | .and=> .ae (.val (.int k (k.wrap (BitVec.ofInt k.bits a&&&BitVec.ofInt k.bits b).toNat)))
 | .or=> .ae (.val (.int k (k.wrap (BitVec.ofInt k.bits a|||BitVec.ofInt k.bits b).toNat)))
 | .xor=> .ae (.val (.int k (k.wrap (BitVec.ofInt k.bits a ^^^ BitVec.ofInt k.bits b).toNat)))
 | .eql=> .ae (.val (.bool (a==b)))
 | .neq=> .ae (.val (.bool (a != b)))
 | .lss=> .ae (.val (.bool (decide (a<b))))
 | .leq=> .ae (.val (.bool (decide (a<=b))))
 | .gtr=> .ae (.val (.bool (decide (a>b))))
 | .geq=> .ae (.val (.bool (decide (a>=b))))
 |_=> .fail
def pH:BinOp->Bool
 | .shl| .shr=>true
 |_=>false
def O5:BinOp->Bool
 | .shl=>true
 |_=>false
def DY(op:BinOp)(x y:SV):af SV:=
 match x,y with
 | .val (.int k a),.val (.int k' b)=>
  bif pH op then
   .aY (¬b<0) (.ae (.val (.int k (bif O5 op then k.wrap (a*2^(min b.toNat k.bits))else a.fdiv (2^(min b.toNat k.bits))))))
  else bif decide (k=k')then wG op k a b else .fail
 | .val (.string a),.val (.string b)=>
  match op with
  | .eql=> .ae (.val (.bool (a.toList==b.toList)))
  | .neq=> .ae (.val (.bool (!(a.toList==b.toList))))
  | .add=> .aY (¬(((a.size+b.size:Nat):Int)>IntKind.i64.max)) (.ae (.val (.string (a++b))))
  |_=> .fail
 |_,_=> .fail
def isNil:Operand->Bool
 | .const .nilIface=>true
 |_=>false
def O6(op:BinOp)(yn:Bool)(x y:SV):af SV:=
 match op,x,y with
 | .eql,.obj _,.val .nilIface=> .ae .ff
 | .neq,.obj _,.val .nilIface=> .ae .tt
 | .eql,.val .nilIface,.val .nilIface=>bif yn then .ae .tt else .fail
 | .neq,.val .nilIface,.val .nilIface=>bif yn then .ae .ff else .fail
 | .neq,.obj i,.obj j=>bif Nat.beq i j then .ae .ff else .fail
 |_,_,_=> .fail
def mo(Y:Sys)(tm:List (Nat×SV))(c:aq Y)(o:Oper):af SV:=
 match o.op with
 | .move x=> .ae (fj tm x)
 | .assign x=> .ae (fj tm x)
 | .pick k a b=>
  match fj tm k with
  | .tt=> .ae (fj tm a)
  | .ff=> .ae (fj tm b)
  | .val (.bool v)=> .aj v (.ae (fj tm a)) (.ae (fj tm b))
  |_=> .fail
 | .nilCheck x=>
  match fj tm x with
  | .st n=> .ae (.st n)
  | .box i=> .ae (.box i)
  | .val (.iface t v)=> .ae (.val (.iface t v))
  |_=> .fail
 | .fieldAddr s x f=>
  match fj tm x with
  | .st n=>match Y.fo s f with
   |some k=> .ae (.st (n+k))
   |none=> .fail
  |_=> .fail
 | .load t x=>
  bif Y.one t then
   match fj tm x with
   | .st n=>match Y.get c.st n with
    |some sv=> .ae sv
    |none=> .fail
   | .box i=>match c.bx[i]? with
    |some v=> .ae (.val v)
    |none=> .fail
   | .DV bs i=> .ae (.val (.int .u8 (bs.get! i).toNat))
   | .val (.pointer (some ⟨g,0,none⟩))=>match Y.jU g with
    |some sv=> .ae sv
    |none=> .fail
   |_=> .fail
  else .fail
 | .binOp op t x y _=>bif Y.UK t then O6 op (isNil y) (fj tm x) (fj tm y)else DY op (fj tm x) (fj tm y)
 | .unOp .not _ x=>
  match fj tm x with
  | .tt=> .ae .ff
  | .ff=> .ae .tt
  | .val (.bool b)=> .ae (.val (.bool (!b)))
  |_=> .fail
 | .convert s d x=>
  match fj tm x with
  | .val (.int k n)=>match Y.ik s with
   |some _=>match Y.ik d with
    |some k'=> .ae (.val (.int k' (k'.wrap n)))
    |none=> .fail
   |none=> .fail
  | .val (.string b)=>bif Y.isStr s&&Y.isStr d then .ae (.val (.string b))else .fail
  | .fG bs=>bif Y.lL s&&Y.isStr d then .ae (.val (.string bs))else .fail
  |_=> .fail
 | .extract x i=>
  match fj tm x with
  | .val (.tuple vs)=>match vs[i]? with
   |some v=> .ae (.val v)
   |none=> .fail
  | .two a b=>match i with
   |0=> .ae a
   |1=> .ae b
   |_=> .fail
  |_=> .fail
 | .index t x i=>
  bif Y.isStr t then
   match fj tm x,fj tm i with
   | .val (.string s),.val (.int _ n)=> .aY (0<=n∧n.toNat<s.size) (.ae (.val (.int .u8 (s.get! n.toNat).toNat)))
   |_,_=> .fail
  else .fail
 | .indexAddr t x i=>
  bif Y.lL t then
   match fj tm x,fj tm i with
   | .fG bs,.val (.int _ n)=> .aY (0<=n∧n.toNat<bs.size) (.ae (.DV bs n.toNat))
   | .ds o n cap,.val (.int _ k)=> .aY (0<=k∧k.toNat<n) (.ae (.dp (o+k.toNat)))
   |_,_=> .fail
  else .fail
 | .slice t x lo hi none=>
  bif Y.lL t then
   match fj tm x,lo.map (fj tm),hi.map (fj tm)with
   | .fG bs,some (.val (.int _ l)),some (.val (.int _ h))=> .aY (0<=l∧l<=h∧h<=bs.size) (.ae (.fG (bs.extract l.toNat h.toNat)))
   | .ds o n cap,some (.val (.int _ l)),some (.val (.int _ h))=>
    .aY (0<=l∧l<=h∧h<=n∧n<=cap∧l.toNat<cap) (.ae (.ds (o+l.toNat) (h.toNat-l.toNat) (cap-l.toNat)))
   |_,_,_=> .fail
  else bif Y.isStr t then
   match fj tm x with
   | .val (.string s)=>
    match lo.map (fj tm),hi.map (fj tm)with
    |some (.val (.int _ l)),some (.val (.int _ h))=> .aY (0<=l∧l<=h∧h<=s.size) (.ae (.val (.string (s.extract l.toNat h.toNat))))
    |some (.val (.int _ l)),none=> .aY (0<=l∧l<=s.size) (.ae (.val (.string (s.extract l.toNat s.size))))
    |none,some (.val (.int _ h))=> .aY (0<=h∧h<=s.size) (.ae (.val (.string (s.extract 0 h.toNat))))
    |_,_=> .fail
   |_=> .fail
  else .fail
 | .makeInterface t x=>bif Y.Ap t then .ae .ifc else .fail
 | .call {callee:= .builtin .len,args,argTypes}=>
  match args.toList,argTypes.toList with
  |[x],[t]=>
   match fj tm x with
   | .val (.string s)=>bif Y.isStr t then .ae (.val (.int .i64 s.size))else .fail
   | .fG bs=>bif Y.lL t then .ae (.val (.int .i64 bs.size))else .fail
   | .ds o n cap=>bif Y.lL t then .ae (.val (.int .i64 n))else .fail
   |_=> .fail
  |_,_=> .fail
 |_=> .fail
def O7(Y:Sys)(bl:List Nat)(w:World)(a:Act)(o:Oper)(Q:SV->Prop):Prop:=
 ∃sv v,Q sv∧(execOp a.eval o).run Y.P w= .ok (.value v) w∧Rel Y bl w sv v
end
end Ev
end Go.Proofs.YtogkcphobhhbdaaGreatDoor
namespace Go.Proofs.YtogkcphobhhbdaaGreatDoor
open Go Go.RowKit
namespace Ev
set_option maxRecDepth 100000
noncomputable section
theorem Ht{P:Program}{w:World}{op:BinOp}{k:IntKind}{a b:Int}{Q:SV->Prop}(h:(wG op k a b).aD Q):
 ∃v,Q (.val v)∧∀t,(binOp op t (.int k a) (.int k b)).run P w= .ok v w:=by
 cases op<;>simp only[wG,af.aD]at h<;>first
  |exact h.elim
  |exact⟨_,h,fun t=>by simp[binOp,Op.intArith,Op.intCmp,Op.intBits]⟩
  |exact⟨_,h.2,fun t=>by simp[binOp,Op.intDiv,h.1]⟩
theorem Hu{P:Program}{w:World}{op:BinOp}{k k':IntKind}{a b:Int}(hs:pH op=true)(hb:¬b<0)(t:TypeId):
 (binOp op t (.int k a) (.int k' b)).run P w= .ok (.int k (bif O5 op then k.wrap (a*2^(min b.toNat k.bits))else a.fdiv (2^(min b.toNat k.bits)))) w:=by
 cases op<;>simp[pH]at hs<;>simp[binOp,Op.shift,hb,O5]
theorem vh{P:Program}{w:World}{op:BinOp}{t:TypeId}{x y:Operand}{k:IntKind}{a:Int}{v:Value}:(eqGuard op t x y (.int k a) v).run P w= .ok () w:=by
 cases op<;>simp[eqGuard]
theorem vj{P:Program}{w:World}{op:BinOp}{t:TypeId}{x y:Operand}{s:U}{v:Value}:(eqGuard op t x y (.string s) v).run P w= .ok () w:=by
 cases op<;>simp[eqGuard]
theorem LF{P:Program}{w:World}{op:BinOp}{x y:SV}{Q:SV->Prop}(h:(DY op x y).aD Q):
 ∃u v r,x= .val u∧y= .val v∧Q (.val r)∧∀(t:TypeId) (xo yo:Operand),(do eqGuard op t xo yo u v;binOp op t u v:Sem Value).run P w= .ok r w:=by
 unfold DY at h
 split at h
 ·rename_i k a k' b
  by_cases hs:pH op=true
  ·simp only[hs,cond_true,af.aD]at h
   exact⟨_,_,_,rfl,rfl,h.2,fun t xo yo=>by simp[vh,Hu hs h.1]⟩
  ·have jt:pH op=false:=by simpa using hs
   simp only[jt,cond_false]at h
   by_cases hk:k=k'
   ·subst hk
    simp only[decide_true,cond_true]at h
    obtain⟨v,hq,hr⟩:=Ht (P:=P) (w:=w) h
    exact⟨_,_,v,rfl,rfl,hq,fun t xo yo=>by simp[vh,hr]⟩
   ·simp only[hk,decide_false,cond_false,af.aD]at h
 ·rename_i a b
  cases op<;>simp only[af.aD]at h<;>first
   |exact h.elim
   |exact⟨_,_,_,rfl,rfl,h,fun t xo yo=>by simp[vj,binOp,Op.stringOp]⟩
   |(refine⟨_,_,_,rfl,rfl,h.2,fun t xo yo=> ?_⟩
     have h1:=h.1
     have h2:(Op.stringOp .add a b).run P w= .ok (.string (a++b)) w:=by
      unfold Op.stringOp
      simp only[]
      rw[if_neg h1];rfl
     simp only[Sem.run_bind,vj,Result.andThen_ok,binOp]
     exact h2)
 ·exact h.elim
theorem Hv{Y:Sys}{bl:List Nat}{w:World}{bs:U}{v:Value}(hv:Rel Y bl w (.fG bs) v){s e d:TypeId}
 (h1:Y.P.underlying s=some (.slice e))(h2:Y.P.underlying e=some (.int .u8))(h3:Y.P.underlying d=some .string):
 (convert s d v).run Y.P w= .ok (.string bs) w:=by
 obtain⟨o,cap,_,rfl,hc⟩:=hv
 have hl:(bs.data.toList.map fun x=>(x.toNat:Int)).length=bs.size:=by rw[List.length_map,Array.length_toList];rfl
 have:=run_convert_bytes_arg (P:=Y.P) w s e h1 h2 Y.B o bs.size cap (bs.data.toList.map fun x=>(x.toNat:Int)) hl (fun i hi=>by
  rw[hc i hi]
  have wb:i<bs.data.size:=hi
  rw[List.getD_eq_getElem?_getD,List.getElem?_map,Array.getElem?_toList,Array.getElem?_eq_getElem wb]
  show some (Value.int .u8 ((bs.data[i]!).toNat:Int))=_
  rw[getElem!_pos bs.data i wb];rfl) d h3
 rw[this]
 congr 2
 have:strOfNums (bs.data.toList.map fun x=>(x.toNat:Int))=bs:=by
  cases bs with
  |mk data=>
   simp only[strOfNums,List.map_map]
   congr 1
   have:((fun n:Int=>UInt8.ofNat n.toNat)∘fun x:UInt8=>(x.toNat:Int))=id:=by
    funext x;simp
   rw[this];simp
 exact this
theorem add_zero(b n m:Nat):(⟨b,n,none⟩:Addr).add m=⟨b,n+m,none⟩:=by unfold Addr.add;split<;>simp_all
theorem ny{Y:Sys}(hY:Laws Y){t:TypeId}(ht:Y.one t=true){w:World}{a:Addr}{v:Value}(hc:w.cell? a=some v):
 (Instr.loadAt t (.pointer (some a))).run Y.P w= .ok v w:=by
 simp only[Instr.loadAt,Instr.sureAddr,loadVar,Sem.run_bind,Sem.run_pure,Result.andThen_ok,(hY.qK ht).1 w]
 simp[run_load,hc]
theorem gh{P:Program}{w:World}{k:IntKind}{n:Int}:(asIntOf (.int k n)).run P w= .ok (k,n) w:=by simp[asIntOf]
theorem qL{P:Program}{w:World}{op:BinOp}{t:TypeId}{x y:Operand}{T:TypeId}{u v:Value}:(eqGuard op t x y (.iface T u) v).run P w= .ok () w:=by
 cases op<;>simp[eqGuard]
theorem vl{P:Program}{w:World}{op:BinOp}{t:TypeId}{x:Operand}{c:Value}:(eqGuard op t x (.const c) .nilIface .nilIface).run P w= .ok () w:=by
 cases op<;>simp[eqGuard]<;>cases x<;>simp
theorem O8{Y:Sys}(hY:Laws Y){t:TypeId}(ht:Y.UK t=true){bl:List Nat}{w:World}{op:BinOp}{x y:Operand}{sx sy:SV}{vx vy:Value}{Q:SV->Prop}{a:Act}
 (hx:Rel Y bl w sx vx)(hy:Rel Y bl w sy vy)(h:(O6 op (isNil y) sx sy).aD Q)(hvy:isNil y=true->True):
 ∃sv v,Q sv∧(do eqGuard op t x y vx vy;binOp op t vx vy:Sem Value).run Y.P w= .ok v w∧Rel Y bl w sv v:=by
 unfold O6 at h
 split at h
 ·rename_i i
  obtain⟨T,u,hu⟩:=hY.xv i
  rw[show vx=_ from hx,show vy=_ from hy]
  refine⟨_,_,h,?_,rfl⟩
  have:=(hY.wE ht i w).1
  rw[Sem.run_bind]
  rw[hu,qL,←hu]
  exact this
 ·rename_i i
  obtain⟨T,u,hu⟩:=hY.xv i
  rw[show vx=_ from hx,show vy=_ from hy]
  refine⟨_,_,h,?_,rfl⟩
  have:=(hY.wE ht i w).2
  rw[Sem.run_bind]
  rw[hu,qL,←hu]
  exact this
 ·cases hn:isNil y with
  |false=>simp only[hn,cond_false,af.aD]at h
  |true=>
   simp only[hn,cond_true]at h
   rw[show vx=_ from hx,show vy=_ from hy]
   refine⟨_,_,h,?_,rfl⟩
   cases y<;>simp[isNil]at hn
   rw[Sem.run_bind,vl]
   exact(hY.wF ht w).1
 ·cases hn:isNil y with
  |false=>simp only[hn,cond_false,af.aD]at h
  |true=>
   simp only[hn,cond_true]at h
   rw[show vx=_ from hx,show vy=_ from hy]
   refine⟨_,_,h,?_,rfl⟩
   cases y<;>simp[isNil]at hn
   rw[Sem.run_bind,vl]
   exact(hY.wF ht w).2
 ·rename_i i j
  cases hb:Nat.beq i j with
  |false=>simp only[hb,cond_false,af.aD]at h
  |true=>
   simp only[hb,cond_true]at h
   have:=Nat.eq_of_beq_eq_true hb
   subst this
   obtain⟨T,u,hu⟩:=hY.xv i
   rw[show vx=_ from hx,show vy=_ from hy]
   refine⟨_,_,h,?_,rfl⟩
   have:=hY.xu ht i w
   have e:(eqGuard .neq t x y (Y.xr i) (Y.xr i)).run Y.P w= .ok () w:=by
    rw[hu];exact qL
   rw[Sem.run_bind,e]
   exact this
 ·exact h.elim
theorem qv{P:Program}{w:World}{t e:TypeId}(ht:P.underlying t=some (.slice e))(he:∀w,(sizeOf e).run P w= .ok 1 w)(b o n cap:Nat)(kl kh:IntKind)(l h:Int)
 (h0:0<=l)(h1:l<=h)(h2:h<=n)(h3:n<=cap):
 ∃o2,(Instr.sliceAt t (.slice (some ⟨b,o,none⟩) n cap) (some (.int kl l)) (some (.int kh h)) none).run P w= .ok (.slice (some ⟨b,o2,none⟩) (h.toNat-l.toNat) (cap-l.toNat)) w∧(l.toNat<cap->o2=o+l.toNat):=by
 have e1:(0:Int)<=h∧h<=(cap:Int):=⟨by omega,by omega⟩
 have e2:(0:Int)<=l∧l<=(h.toNat:Int):=⟨h0,by omega⟩
 refine⟨if cap=l.toNat then o else o+l.toNat,?_,fun bz=>by rw[if_neg (by omega)]⟩
 have key:(Instr.sliceBounds true n cap (some (.int kl l)) (some (.int kh h)) none).run P w= .ok (l.toNat,h.toNat,cap) w:=by
  simp[Instr.sliceBounds,Instr.sliceBound,gh,e1,e2]
  intro bz
  omega
 simp only[Instr.sliceAt,Sem.run_bind,run_underlying ht,Result.andThen_ok,Instr.slice,key,he]
 by_cases hc:cap=l.toNat
 ·simp[hc]
 ·simp[hc,add_zero]
theorem aA(bs:U)(l h:Nat)(h2:h<=bs.size):(bs.extract l h).size=h-l:=by
 rw[ByteArray.size_extract,Nat.min_eq_left h2]
theorem a7(bs:U)(l h j:Nat)(h2:h<=bs.size)(hj:j<h-l):(bs.extract l h).get! j=bs.get! (l+j):=by
 have h3:j<(bs.extract l h).size:=by rw[aA _ _ _ h2];exact hj
 have h4:l+j<bs.size:=by omega
 show(bs.extract l h).data[j]! =bs.data[l+j]!
 rw[getElem!_pos (bs.extract l h).data j h3,getElem!_pos bs.data (l+j) h4]
 simp
theorem DZ{Y:Sys}{bl:List Nat}{w:World}{bs:U}{o o2 cap:Nat}{l h:Int}(hc:∀j,j<bs.size->w.cell? ⟨Y.B,o+j,none⟩=some (.int .u8 (bs.get! j).toNat))
 (h0:0<=l)(h1:l<=h)(h2:h<=bs.size)(zO:bs.size<=cap)(ho:l.toNat<cap->o2=o+l.toNat):
 Rel Y bl w (.fG (bs.extract l.toNat h.toNat)) (.slice (some ⟨Y.B,o2,none⟩) (h.toNat-l.toNat) (cap-l.toNat)):=by
 have hs:(bs.extract l.toNat h.toNat).size=h.toNat-l.toNat:=aA _ _ _ (by omega)
 refine⟨o2,cap-l.toNat,by omega,by rw[hs],fun j hj=> ?_⟩
 rw[hs]at hj
 rw[a7 _ _ _ _ (by omega) hj,ho (by omega),Nat.add_assoc]
 exact hc _ (by omega)
theorem zP{P:Program}{w:World}{t:TypeId}(ht:P.underlying t=some .string)(s:U)(kl kh:IntKind)(l h:Int)(h0:0<=l)(h1:l<=h)(h2:h<=s.size):
 (Instr.sliceAt t (.string s) (some (.int kl l)) (some (.int kh h)) none).run P w= .ok (.string (s.extract l.toNat h.toNat)) w:=by
 have e1:(0:Int)<=h∧h<=(s.size:Int):=⟨by omega,h2⟩
 have e2:(0:Int)<=l∧l<=(h.toNat:Int):=⟨h0,by omega⟩
 simp[Instr.sliceAt,run_underlying ht,Instr.slice,Instr.sliceBounds,Instr.sliceBound,gh,e1,e2]
 intro bz
 omega
theorem xB{P:Program}{w:World}{t:TypeId}(ht:P.underlying t=some .string)(s:U)(kl:IntKind)(l:Int)(h0:0<=l)(h1:l<=s.size):
 (Instr.sliceAt t (.string s) (some (.int kl l)) none none).run P w= .ok (.string (s.extract l.toNat s.size)) w:=by
 have e2:(0:Int)<=l∧l<=(s.size:Int):=⟨h0,h1⟩
 simp[Instr.sliceAt,run_underlying ht,Instr.slice,Instr.sliceBounds,Instr.sliceBound,gh,e2]
theorem Ca{P:Program}{w:World}{t:TypeId}(ht:P.underlying t=some .string)(s:U)(kh:IntKind)(h:Int)(h0:0<=h)(h1:h<=s.size):
 (Instr.sliceAt t (.string s) none (some (.int kh h)) none).run P w= .ok (.string (s.extract 0 h.toNat)) w:=by
 have e2:(0:Int)<=h∧h<=(s.size:Int):=⟨h0,h1⟩
 simp[Instr.sliceAt,run_underlying ht,Instr.slice,Instr.sliceBounds,Instr.sliceBound,gh,e2]
theorem qM{Y:Sys}(hY:Laws Y){c:aq Y}{bl:List Nat}{w:World}{tm:List (Nat×SV)}{a:Act}{o:Oper}{Q:SV->Prop}
 (hc:fu Y bl c w)(hr:∀i,Rel Y bl w (look tm i) (a.tmps.getD i undef))(h:(mo Y tm c o).aD Q):O7 Y bl w a o Q:=by
 have ho:=B_ (a:=a) hr
 unfold mo at h
 unfold O7 execOp
 split at h<;>rename_i heq<;>simp only[heq]
 ·exact⟨_,_,h,rfl,ho _⟩
 ·exact⟨_,_,h,rfl,ho _⟩
 ·
  rename_i k x y
  have hk:=ho k
  split at h<;>rename_i rV<;>(try rw[rV]at hk)
  ·rw[show a.eval k= .bool true from hk]
   exact⟨_,_,h,by simp[asBool],ho x⟩
  ·rw[show a.eval k= .bool false from hk]
   exact⟨_,_,h,by simp[asBool],ho y⟩
  ·rename_i v
   rw[show a.eval k= .bool v from hk]
   cases v
   ·exact⟨_,_,h.2 rfl,by simp[asBool],ho y⟩
   ·exact⟨_,_,h.1 rfl,by simp[asBool],ho x⟩
  ·exact h.elim
 ·
  rename_i x
  have hk:=ho x
  split at h<;>rename_i rV<;>(try rw[rV]at hk)
  ·rw[show a.eval x=_ from hk];exact⟨_,_,h,rfl,rfl⟩
  ·obtain⟨b,hb,hv⟩:=hk
   rw[hv];exact⟨_,_,h,rfl,b,hb,rfl⟩
  ·rw[show a.eval x=_ from hk];exact⟨_,_,h,rfl,rfl⟩
  ·exact h.elim
 ·
  rename_i s x f
  have hk:=ho x
  split at h<;>rename_i rV<;>(try rw[rV]at hk)
  ·split at h
   ·rename_i k hf
    rw[show a.eval x=_ from hk]
    exact⟨_,_,h,by simp[hY.DX hf],rfl⟩
   ·exact h.elim
  ·exact h.elim
 ·
  rename_i t x
  by_cases ht:Y.one t=true
  ·rw[ht]at h
   simp only[cond_true]at h
   have hk:=ho x
   split at h<;>rename_i rV<;>(try rw[rV]at hk)
   ·rename_i n
    split at h
    ·rename_i sv hg
     obtain⟨v,cF,hv⟩:=hY.xt hc.inv hg
     rw[show a.eval x=_ from hk]
     exact⟨_,v,h,by simp[ny hY ht cF],hv _⟩
    ·exact h.elim
   ·rename_i i
    obtain⟨b,hb,hv⟩:=hk
    split at h
    ·rename_i u hu
     have cF:=(hc.cell i b u hb hu).1
     rw[hv]
     exact⟨_,u,h,by simp[ny hY ht cF],rfl⟩
    ·exact h.elim
   ·rename_i bs i
    obtain⟨o',hv,cF⟩:=hk
    rw[hv]
    exact⟨_,_,h,by simp[ny hY ht cF],rfl⟩
   ·rename_i g
    split at h
    ·rename_i sv hg
     obtain⟨v,cF,hv⟩:=hY.B7 hc.inv hg
     rw[show a.eval x=_ from hk]
     exact⟨_,v,h,by simp[ny hY ht cF],hv.rel _ _⟩
    ·exact h.elim
   ·exact h.elim
  ·simp only[ht,cond_false,af.aD]at h
 ·
  rename_i op t x y yt
  by_cases ht:Y.UK t=true
  ·simp only[ht,cond_true]at h
   obtain⟨sv,v,hq,eg,hrel⟩:=O8 hY ht (a:=a) (ho x) (ho y) h (fun _=>trivial)
   simp only[Sem.run_bind]at eg
   exact⟨sv,v,hq,by simp only[Sem.run_bind];rw[eg];rfl,hrel⟩
  simp only[ht,cond_false]at h
  obtain⟨u,v,r,hx,hy,hq,eg⟩:=LF (P:=Y.P) (w:=w) h
  have h1:=ho x
  have h2:=ho y
  rw[hx]at h1
  rw[hy]at h2
  rw[show a.eval x=u from h1,show a.eval y=v from h2]
  have Ar:=eg t x y
  simp only[Sem.run_bind]at Ar
  exact⟨_,r,hq,by simp only[Sem.run_bind];rw[Ar];rfl,rfl⟩
 ·
  rename_i t x
  have hk:=ho x
  split at h<;>rename_i rV<;>(try rw[rV]at hk)
  ·rw[show a.eval x=_ from hk];exact⟨_,_,h,by simp[Op.unary],rfl⟩
  ·rw[show a.eval x=_ from hk];exact⟨_,_,h,by simp[Op.unary],rfl⟩
  ·rw[show a.eval x=_ from hk];exact⟨_,_,h,by simp[Op.unary],rfl⟩
  ·exact h.elim
 ·
  rename_i s d x
  have hk:=ho x
  split at h<;>rename_i rV<;>(try rw[rV]at hk)
  ·split at h
   ·rename_i k1 hk1
    split at h
    ·rename_i k2 rW
     rw[show a.eval x=_ from hk]
     exact⟨_,_,h,by simp[convert,run_underlying (hY.xA hk1),run_underlying (hY.xA rW),Conv.intToInt],rfl⟩
    ·exact h.elim
   ·exact h.elim
  ·by_cases hs:Y.isStr s=true
   ·by_cases hd:Y.isStr d=true
    ·simp only[hs,hd,Bool.and_self,cond_true]at h
     rw[show a.eval x=_ from hk]
     exact⟨_,_,h,by simp[convert,run_underlying (hY.mn hs),run_underlying (hY.mn hd)],rfl⟩
    ·simp only[hs,hd,Bool.and_false,cond_false,af.aD]at h
   ·simp only[hs,Bool.false_and,cond_false,af.aD]at h
  ·by_cases hs:Y.lL s=true
   ·by_cases hd:Y.isStr d=true
    ·simp only[hs,hd,Bool.and_self,cond_true]at h
     obtain⟨e,e1,e2,e3⟩:=hY.qu hs
     exact⟨_,_,h,by simp only[Sem.run_bind,Hv hk e1 e2 (hY.mn hd)];rfl,rfl⟩
    ·simp only[hs,hd,Bool.and_false,cond_false,af.aD]at h
   ·simp only[hs,Bool.false_and,cond_false,af.aD]at h
  ·exact h.elim
 ·
  rename_i x i
  have hk:=ho x
  split at h<;>rename_i rV<;>(try rw[rV]at hk)
  ·rename_i vs
   split at h
   ·rename_i v hv
    rw[show a.eval x=_ from hk]
    exact⟨_,_,h,by simp[Instr.extract,hv],rfl⟩
   ·exact h.elim
  ·obtain⟨v1,v2,hv,h1,h2⟩:=hk
   split at h
   ·exact⟨_,v1,h,by simp[Instr.extract,hv],h1.rel _ _⟩
   ·exact⟨_,v2,h,by simp[Instr.extract,hv],h2.rel _ _⟩
   ·exact h.elim
  ·exact h.elim
 ·
  rename_i t x i
  by_cases ht:Y.isStr t=true
  ·simp only[ht,cond_true]at h
   have h1:=ho x
   have h2:=ho i
   split at h
   ·rename_i s k n hx hi
    rw[hx]at h1
    rw[hi]at h2
    rw[show a.eval x=_ from h1,show a.eval i=_ from h2]
    obtain⟨⟨h3,h4⟩,hq⟩:=h
    refine⟨_,_,hq,?_,rfl⟩
    have e:s[n.toNat]? =some (s.get! n.toNat):=by
     rw[getElem?_pos s n.toNat h4]
     show some (s.data[n.toNat]'h4)=some (s.data[n.toNat]!)
     rw[getElem!_pos s.data n.toNat h4]
    simp[Instr.index,gh,run_underlying (hY.mn ht),h3,e]
   ·exact h.elim
  ·simp only[ht,cond_false,af.aD]at h
 ·
  rename_i t x i
  by_cases ht:Y.lL t=true
  ·simp only[ht,cond_true]at h
   have h1:=ho x
   have h2:=ho i
   split at h
   ·rename_i bs k n hx hi
    rw[hx]at h1
    rw[hi]at h2
    obtain⟨⟨h3,h4⟩,hq⟩:=h
    obtain⟨o',cap,zO,hv,cF⟩:=h1
    obtain⟨e,e1,e2,e3⟩:=hY.qu ht
    rw[hv,show a.eval i=_ from h2]
    refine⟨_,.pointer (some ⟨Y.B,o'+n.toNat,none⟩),hq,?_,_,rfl,cF _ h4⟩
    have h5:(n:Int)<(bs.size:Int):=by omega
    simp[Instr.indexAt,gh,run_underlying e1,e3,h3,h5,add_zero]
   ·rename_i o n cap k i2 hx hi
    rw[hx]at h1
    rw[hi]at h2
    obtain⟨⟨h3,h4⟩,hq⟩:=h
    obtain⟨e,e1,e2,e3⟩:=hY.qu ht
    rw[show a.eval x=_ from h1,show a.eval i=_ from h2]
    refine⟨_,_,hq,?_,rfl⟩
    have h5:(i2:Int)<(n:Int):=by omega
    simp[Instr.indexAt,gh,run_underlying e1,e3,h3,h5,add_zero]
   ·exact h.elim
  ·simp only[ht,cond_false,af.aD]at h
 ·
  rename_i t x lo hi
  by_cases hb:Y.lL t=true
  ·simp only[hb,cond_true]at h
   have h1:=ho x
   split at h
   ·rename_i bs kl l kh n hx hl hh
    rw[hx]at h1
    cases lo with
    |none=>simp at hl
    |some Uw=>
     cases hi with
     |none=>simp at hh
     |some wb=>
      simp only[Option.map_some,Option.some.injEq]at hl hh
      have h3:=ho Uw
      have h4:=ho wb
      rw[hl]at h3
      rw[hh]at h4
      obtain⟨⟨g1,g2,g3⟩,hq⟩:=h
      obtain⟨o',cap,zO,hv,cF⟩:=h1
      simp only[Option.map_none,Option.map_some,hv,show a.eval Uw=_ from h3,show a.eval wb=_ from h4]
      obtain⟨e,e1,e2,e3⟩:=hY.qu hb
      obtain⟨o2,eg⟩:=qv (P:=Y.P) (w:=w) e1 e3 Y.B o' bs.size cap kl kh l n g1 g2 g3 zO
      exact⟨_,_,hq,by simp only[Sem.run_bind,eg.1];rfl,DZ cF g1 g2 g3 zO eg.2⟩
   ·rename_i o n cap kl l kh n2 hx hl hh
    rw[hx]at h1
    cases lo with
    |none=>simp at hl
    |some Uw=>
     cases hi with
     |none=>simp at hh
     |some wb=>
      simp only[Option.map_some,Option.some.injEq]at hl hh
      have h3:=ho Uw
      have h4:=ho wb
      rw[hl]at h3
      rw[hh]at h4
      obtain⟨⟨g1,g2,g3,g4,g5⟩,hq⟩:=h
      simp only[Option.map_none,Option.map_some,show a.eval x=_ from h1,show a.eval Uw=_ from h3,show a.eval wb=_ from h4]
      obtain⟨e,e1,e2,e3⟩:=hY.qu hb
      obtain⟨o2,eg,ho2⟩:=qv (P:=Y.P) (w:=w) e1 e3 Y.D o n cap kl kh l n2 g1 g2 g3 g4
      obtain rfl:=ho2 g5
      exact⟨_,_,hq,by simp only[Sem.run_bind,eg];rfl,rfl⟩
   ·exact h.elim
  simp only[hb,cond_false]at h
  by_cases ht:Y.isStr t=true
  ·simp only[ht,cond_true]at h
   have h1:=ho x
   split at h
   ·rename_i s hx
    rw[hx]at h1
    rw[show a.eval x=_ from h1]
    cases lo with
    |none=>
     cases hi with
     |none=>simp only[Option.map_none,af.aD]at h
     |some wb=>
      simp only[Option.map_none,Option.map_some]at h
      split at h
      ·rename_i e1 e2;simp at e1
      ·rename_i e1 e2;simp at e1
      ·rename_i k n _ e2
       have h3:=ho wb
       simp only[Option.some.injEq]at e2
       rw[e2]at h3
       obtain⟨⟨g1,g2⟩,hq⟩:=h
       simp only[Option.map_none,Option.map_some,show a.eval wb=_ from h3]
       exact⟨_,_,hq,by simp only[Sem.run_bind,Ca (hY.mn ht) s k n g1 g2];rfl,rfl⟩
      ·exact h.elim
    |some Uw=>
     cases hi with
     |none=>
      simp only[Option.map_none,Option.map_some]at h
      split at h
      ·rename_i e1 e2;simp at e2
      ·rename_i k n e1 _
       have h3:=ho Uw
       simp only[Option.some.injEq]at e1
       rw[e1]at h3
       obtain⟨⟨g1,g2⟩,hq⟩:=h
       simp only[Option.map_none,Option.map_some,show a.eval Uw=_ from h3]
       exact⟨_,_,hq,by simp only[Sem.run_bind,xB (hY.mn ht) s k n g1 g2];rfl,rfl⟩
      ·rename_i e1 e2;simp at e2
      ·exact h.elim
     |some wb=>
      simp only[Option.map_some]at h
      split at h
      ·rename_i kl l kh n e1 e2
       have h3:=ho Uw
       have h4:=ho wb
       simp only[Option.some.injEq]at e1 e2
       rw[e1]at h3
       rw[e2]at h4
       obtain⟨⟨g1,g2,g3⟩,hq⟩:=h
       simp only[Option.map_none,Option.map_some,show a.eval Uw=_ from h3,show a.eval wb=_ from h4]
       exact⟨_,_,hq,by simp only[Sem.run_bind,zP (hY.mn ht) s kl kh l n g1 g2 g3];rfl,rfl⟩
      ·rename_i e1 e2;simp at e2
      ·rename_i e1 e2;simp at e1
      ·exact h.elim
   ·exact h.elim
  ·simp only[ht,cond_false,af.aD]at h
 ·
  rename_i t x
  by_cases ht:Y.Ap t=true
  ·simp only[ht,cond_true]at h
   exact⟨_,_,h,by simp only[Sem.run_bind,hY.O4 ht];rfl,_,_,rfl⟩
  ·simp only[ht,cond_false,af.aD]at h
 ·
  rename_i args argTypes
  split at h
  ·rename_i x t hx ht
   obtain rfl:args=#[x]:=by apply Array.toList_inj.1;exact hx
   obtain rfl:argTypes=#[t]:=by apply Array.toList_inj.1;exact ht
   have hk:=ho x
   split at h<;>rename_i rV<;>(try rw[rV]at hk)
   ·by_cases ht:Y.isStr t=true
    ·simp only[ht,cond_true]at h
     have OQ:a.eval x=_:=hk
     exact⟨_,_,h,by simp[resolve,invoke,builtin,Builtin.len_,OQ,run_underlying (hY.mn ht),goInt],rfl⟩
    ·simp only[ht,cond_false,af.aD]at h
   ·by_cases ht:Y.lL t=true
    ·simp only[ht,cond_true]at h
     obtain⟨o',cap,_,hv,_⟩:=hk
     obtain⟨e,e1,e2,e3⟩:=hY.qu ht
     exact⟨_,_,h,by simp[resolve,invoke,builtin,Builtin.len_,hv,run_underlying e1,goInt],rfl⟩
    ·simp only[ht,cond_false,af.aD]at h
   ·by_cases ht:Y.lL t=true
    ·simp only[ht,cond_true]at h
     obtain⟨e,e1,e2,e3⟩:=hY.qu ht
     have OQ:a.eval x=_:=hk
     exact⟨_,_,h,by simp[resolve,invoke,builtin,Builtin.len_,OQ,run_underlying e1,goInt],rfl⟩
    ·simp only[ht,cond_false,af.aD]at h
   ·exact h.elim
  ·exact h.elim
 ·exact h.elim
end
end Ev
end Go.Proofs.YtogkcphobhhbdaaGreatDoor
namespace Go.Proofs.YtogkcphobhhbdaaGreatDoor
open Go Go.RowKit
namespace Ev
noncomputable section
inductive oM(Y:Sys)(bl:List Nat)(w:World):List SV->List Value->Prop
 |nil:oM Y bl w [] []
 |cons {sv v l vs}:Rel Y bl w sv v->oM Y bl w l vs->oM Y bl w (sv::l) (v::vs)
def fg(Y:Sys)(f:FuncId)(kQ:Array Value)(iR:Bool)(g:List SV->aq Y->af (SV×aq Y)):Prop:=
 ∀(args:List SV) (c:aq Y) (bl:List Nat) (w:World) (bS:List Value) (Q:SV×aq Y->Prop),
  oM Y bl w args bS->fu Y bl c w->(g args c).aD Q->
  Calls Y.P f (bS.toArray++kQ) w fun e w'=>(∃sv c' v dw,Q (sv,c')∧e= .returned v∧Rel Y dw w' sv v∧fu Y dw c' w'∧Ext Y bl dw w w'∧
   (iR=false->∀o,w'.cell? ⟨Y.B,o,none⟩=w.cell? ⟨Y.B,o,none⟩))∨(e= .outgrown∧∃p,Q p∧Y.eM p.2.st)
def gT{Y:Sys}(g:List SV->aq Y->af (SV×aq Y)):Prop:=
 ∀(args:List SV) (c:aq Y) (Q:SV×aq Y->Prop),Y.eM c.st->(g args c).aD Q->∃p,Q p∧Y.eM p.2.st
structure ej(Y:Sys) where
 f:FuncId
 kQ:Array Value
 iR:Bool
 g:List SV->aq Y->af (SV×aq Y)
structure ej.Ok{Y:Sys}(s:ej Y):Prop where
 enters:∀args w,(callFunc s.f args).run Y.P w= .ok (.enter s.f args) w
 ok:fg Y s.f s.kQ s.iR s.g
 mono:gT s.g
inductive Ex where
 |normal
 |exit (id:Nat)
 |goto (l:Nat)
 |ret
def Ex.oN:Ex->Exit
 | .normal=> .normal
 | .exit id=> .exit id
 | .goto l=> .goto l
 | .ret=> .ret
def oG(Y:Sys)(N:Nat)(Q:Ex×E Y->Prop)(bl:List Nat)(w:World):Exit->Act->World->Prop:=
 fun e a' w'=>(∃x e' dw,Q (x,e')∧e=x.oN∧cL Y N e' dw a' w'∧Ext Y bl dw w w')∨(e= .outgrown∧∃p,Q p∧Y.eM p.2.c.st)
def cy(Y:Sys)(N:Nat)(id:Nat)(b:Code)(g:E Y->af (Ex×E Y)):Prop:=
 (∀(e:E Y) (bl:List Nat) (a:Act) (w:World) (Q:Ex×E Y->Prop),cL Y N e bl a w->(g e).aD Q->(Code.block id b).wp Y.P (oG Y N Q bl w) a w)∧
 (∀(e:E Y) (Q:Ex×E Y->Prop),Y.eM e.c.st->(g e).aD Q->∃p,Q p∧Y.eM p.2.c.st)
def ki(Y:Sys)(N:Nat)(b:Code)(g:E Y->af (Ex×E Y)):Prop:=
 (∀(e:E Y) (bl:List Nat) (a:Act) (w:World) (Q:Ex×E Y->Prop),cL Y N e bl a w->(g e).aD Q->b.wp Y.P (oG Y N Q bl w) a w)∧
 (∀(e:E Y) (Q:Ex×E Y->Prop),Y.eM e.c.st->(g e).aD Q->∃p,Q p∧Y.eM p.2.c.st)
structure eS(Y:Sys) where
 N:Nat
 uf:List (Nat×ej Y)
 fns:List (Nat×ej Y)
 jI:List (Nat×(E Y->af (Ex×E Y)))
 still:List Nat
 rX:List (Nat×String×ej Y)
 kj:Nat
def af.quiet{Y:Sys}(c:aq Y):af (SV×aq Y)->Prop
 | .ae p=>p.2=c
 | .aj _ t e=>t.quiet c∧e.quiet c
 | .aY _ k=>k.quiet c
 | .any _ _=>False
 | .fail=>True
def af.cg{α:Type}:af α->Prop
 | .ae _=>True
 | .aj _ t e=>t.cg∧e.cg
 | .aY _ k=>k.cg
 | .any _ _=>False
 | .fail=>True
def dx:List Nat->Nat->Bool
 |[],_=>false
 |j::r,i=>Nat.beq i j||dx r i
structure eS.Ok{Y:Sys}(C:eS Y):Prop where
 uf:∀p∈C.uf,p.2.Ok∧p.2.f=p.1∧p.2.kQ=#[]
 still:∀p∈C.uf,dx C.still p.1=true->p.2.iR=false∧∀args c,(p.2.g args c).quiet c
 rX:∀p∈C.rX,p.2.2.Ok∧p.2.2.iR=false∧(∀args c,(p.2.2.g args c).cg)∧
  ∀a args w,(callMethod (.iface p.1 (.pointer (some a))) p.2.1 args).run Y.P w= .ok (.enter p.2.2.f (#[.pointer (some a)]++args++p.2.2.kQ)) w
 fns:∀p∈C.fns,p.2.Ok∧Y.fnv p.1= .func (.func p.2.f) #[] p.2.kQ
def find{α:Type}:List (Nat×α)->Nat->Option α
 |[],_=>none
 |(j,v)::r,i=>bif Nat.beq i j then some v else find r i
theorem gU{α:Type}{l:List (Nat×α)}{i:Nat}{v:α}(h:find l i=some v):(i,v)∈l:=by
 induction l with
 |nil=>simp[find]at h
 |cons p r ih=>
  obtain⟨j,u⟩:=p
  simp only[find]at h
  cases hb:Nat.beq i j with
  |true=>
   rw[hb]at h
   have:=Nat.eq_of_beq_eq_true hb
   subst this
   simp at h
   subst h
   exact List.mem_cons_self ..
  |false=>
   rw[hb]at h
   exact List.mem_cons_of_mem _ (ih h)
def Cb:SV->SV
 | .fG _=> .jk
 | .DV _ _=> .jk
 |v=>v
def clean:List (Nat×SV)->List (Nat×SV)
 |[]=>[]
 |(i,v)::r=>(i,Cb v)::clean r
def oH(d:Option Tmp)(v:SV)(tm:List (Nat×SV)):List (Nat×SV):=
 match d with
 |some d=>(d,v)::tm
 |none=>tm
def jV:SV->Bool
 | .ifc=>true
 |_=>false
def mK{Y:Sys}(C:eS Y)(tm:List (Nat×SV))(c:aq Y)(o:Oper):af (SV×aq Y×Bool):=
 match o.op with
 | .store t x y=>
  bif Y.one t then
   match fj tm x with
   | .st n=>match Y.set c.st n (fj tm y)with
    |some aO=> .ae (.val (.tuple #[]),⟨aO,c.bx⟩,false)
    |none=> .fail
   | .box i=>match fj tm y with
    | .val (.int k n)=> .ae (.val (.tuple #[]),⟨c.st,c.bx.set i (.int k n)⟩,false)
    |_=> .fail
   | .dp i=>match Y.qm c.st i (fj tm y)with
    |some aO=> .aY (Y.OO c.st i) (.ae (.val (.tuple #[]),⟨aO,c.bx⟩,false))
    |none=> .fail
   |_=> .fail
  else .fail
 | .alloc t=>bif Nat.beq t 3 then .ae (.box c.bx.length,⟨c.st,c.bx++[.int .i64 0]⟩,false)else .fail
 | .buildSlice t len parts=>
  bif Y.vg t then
   match len,parts.toList with
   |1,[(0,x)]=>bif jV (fj tm x)then .ae (.jk,c,false)else .fail
   |2,[(0,x),(1,y)]=>bif jV (fj tm x)&&jV (fj tm y)then .ae (.jk,c,false)else .fail
   |_,_=> .fail
  else .fail
 | .call {callee:= .value f,args,..}=>
  match f with
  | .func n=>match find C.uf n with
   |some s=>(s.g (args.toList.map (fj tm)) c).bind fun p=> .ae (p.1,p.2,s.iR)
   |none=> .fail
  |f=>match fj tm f with
   | .fn i=>match find C.fns i with
    |some s=>(s.g (args.toList.map (fj tm)) c).bind fun p=> .ae (p.1,p.2,s.iR)
    |none=> .fail
   |_=> .fail
 | .call {callee:= .builtin .copy,args,argTypes}=>
  match args.toList,argTypes.toList with
  |[x,y],[t,t']=>
   bif Y.lL t then
    match fj tm x,fj tm y with
    | .ds o n _,.ds so m _=>match Y.JR c.st o so (Nat.min m n)with
     |some aO=> .aY (Y.OP c.st o so (Nat.min m n)) (.ae (.val (.int .i64 (Nat.min m n)),⟨aO,c.bx⟩,false))
     |none=> .fail
    |_,_=> .fail
   else .fail
  |_,_=> .fail
 | .call {callee:= .invoke r name,args,..}=>
  match fj tm r with
  | .val (.iface t (.pointer (some a)))=>match find C.rX t with
   |some (nm,s)=> .aY (name=nm) ((s.g (.val (.pointer (some a))::args.toList.map (fj tm)) c).bind fun p=> .ae (p.1,p.2,s.iR))
   |none=> .fail
  |_=> .fail
 |_=> .fail
def gF:Op->Bool
 | .store .. =>true
 | .alloc _=>true
 | .buildSlice .. =>true
 | .call {callee:= .value _,..}=>true
 | .call {callee:= .builtin .copy,..}=>true
 | .call {callee:= .invoke ..,..}=>true
 |_=>false
def iF(N:Nat):Option Tmp->Bool
 |none=>true
 |some d=>Nat.blt d N
def il{Y:Sys}(C:eS Y)(o:Oper)(e:E Y)(k:E Y->af (E Y)):af (E Y):=
 bif gF o.op then
  (mK C e.tm e.c o).bind fun p=>k ⟨p.2.1,oH o.dst p.1 (bif p.2.2 then clean e.tm else e.tm)⟩
 else(mo Y e.tm e.c o).bind fun sv=>k ⟨e.c,oH o.dst sv e.tm⟩
def nz{Y:Sys}(o:Oper)(e:E Y)(k:E Y->af (E Y)):af (E Y):=k ⟨e.c,oH o.dst (.val (.tuple #[])) e.tm⟩
def cT{Y:Sys}(C:eS Y)(ops:Array Oper):List Oper->E Y->af (E Y)
 |[],e=> .ae e
 |o::rest,e=>
  bif iF C.N o.dst then
   match o.guard with
   |none=>il C o e (cT C ops rest)
   |some (j,want)=>
    match (ops[j]?).bind (·.dst)with
    |none=> .fail
    |some d=>
     match look e.tm d with
     | .tt=>bif want then il C o e (cT C ops rest)else nz o e (cT C ops rest)
     | .ff=>bif want then nz o e (cT C ops rest)else il C o e (cT C ops rest)
     | .val (.bool b)=> .aj b
      (bif want then il C o ⟨e.c,(d,.tt)::e.tm⟩ (cT C ops rest)else nz o ⟨e.c,(d,.tt)::e.tm⟩ (cT C ops rest))
      (bif want then nz o ⟨e.c,(d,.ff)::e.tm⟩ (cT C ops rest)else il C o ⟨e.c,(d,.ff)::e.tm⟩ (cT C ops rest))
     | .val (.tuple _)=>nz o e (cT C ops rest)
     |_=> .fail
  else .fail
def iS:List Oper->Nat
 |[]=>0
 |[_]=>0
 |o::rest=>bif gF o.op then 0 else iS rest+1
def mq:Op->Bool
 | .load .. =>true
 |_=>false
def bH:Op->Bool
 | .store .. =>true
 | .call {callee:= .invoke ..,..}=>true
 |_=>false
def oO(still:List Nat):Op->Bool
 | .buildSlice .. =>true
 | .call {callee:= .value (.func n),..}=>dx still n
 |_=>false
def qN:Op->List Operand
 | .move x| .assign x| .nilCheck x| .fieldAddr _ x _| .load _ x| .unOp _ _ x| .convert _ _ x| .extract x _| .makeInterface _ x=>[x]
 | .pick k a b=>[k,a,b]
 | .binOp _ _ x y _| .index _ x y| .indexAddr _ x y| .store _ x y=>[x,y]
 | .slice _ x lo hi _=>x::(lo.toList++hi.toList)
 | .buildSlice _ _ parts=>parts.toList.map (·.2)
 | .call c=>(match c.callee with| .value f=>[f]| .invoke r _=>[r]| .builtin _=>[])++c.args.toList
 |_=>[]
def tmpsOf(ops:Array Oper)(o:Oper):List Nat:=
 ((qN o.op).filterMap fun x=>match x with| .tmp t=>some t|_=>none)++(match o.guard with|some (j,_)=>((ops[j]?).bind (·.dst)).toList|none=>[])
def JT(o:Oper)(t:Nat):Bool:=
 match o.dst with
 |some d=>Nat.beq d t
 |none=>false
def waits(ops:Array Oper)(i j:Nat):Bool:=
 match ops[i]? with
 |some o=>o.after.any fun e=>Region.binds .any e&&e.on==j
 |none=>false
def nA(ops:Array Oper):Nat->Nat->Nat->Bool
 |0,i,j=>waits ops i j
 |f+1,i,j=>waits ops i j||((List.range i).any fun k=>waits ops i k&&nA ops f k j)
def O9(still:List Nat)(ops:Array Oper)(n i:Nat):Bool:=
 match ops[i]? with
 |none=>false
 |some o=>
  (!gF o.op||oO still o.op||bH o.op)
  &&(o.after.all fun e=> !Region.binds .any e||Nat.blt e.on i)
  &&((tmpsOf ops o).all fun t=>(List.range n).all fun j=>match ops[j]? with
     |some oj=> !JT oj t||(Nat.blt j i&&waits ops i j)
     |none=>false)
  &&((List.range n).all fun j=>match ops[j]? with
     |some oj=>Nat.beq j i||((match o.dst with|some d=> !JT oj d|none=>true)
      &&(!(bH o.op&&(mq oj.op||gF oj.op))||(bif Nat.blt i j then nA ops 4 j i else nA ops 4 i j)))
     |none=>false)
def xC(n m:Nat):Array Bool:=(List.replicate n true++List.replicate (m-n) false).toArray
def D1(still:List Nat)(ops:Array Oper)(n:Nat):Bool:=
 Nat.ble n ops.size&&((List.range n).all fun i=>O9 still ops n i)
 &&(Nat.beq n ops.size||(Region.sinkB .any ops n&&Region.chainB .any ops n))&&Region.seqB .any ops (ops.size-n) n (xC n ops.size)
def xD{Y:Sys}(C:eS Y)(ops:Array Oper)(e:E Y):af (E Y):=
 bif Region.lexTailB .any ops (iS ops.toList)then
  (cT C ops (ops.toList.take (iS ops.toList)) e).bind fun e'=>cT C ops (ops.toList.drop (iS ops.toList)) e'
 else bif D1 C.still ops ops.size then
  (cT C ops (ops.toList.take ops.size) e).bind fun e'=>cT C ops (ops.toList.drop ops.size) e'
 else bif D1 C.still ops (ops.size-1)then
  (cT C ops (ops.toList.take (ops.size-1)) e).bind fun e'=>cT C ops (ops.toList.drop (ops.size-1)) e'
 else .fail
def Hw{Y:Sys}(c:Operand)(v:SV)(e:E Y):E Y:=
 match c with
 | .tmp t=>⟨e.c,(t,v)::e.tm⟩
 |_=>e
def iter{Y:Sys}(f:E Y->af (Ex×E Y)):Nat->E Y->af (Ex×E Y)
 |0,_=> .fail
 |n+1,e=>(f e).bind fun xe=>match xe.1 with
  | .normal=>iter f n xe.2
  |_=> .ae xe
def agV{Y:Sys}(C:eS Y):Operand->Option (E Y->af (Ex×E Y))
 | .tmp n=>find C.jI (3000000+n)
 |_=>none
def az{Y:Sys}(C:eS Y):Code->E Y->af (Ex×E Y)
 | .skip,e=> .ae (.normal,e)
 | .label _,e=> .ae (.normal,e)
 | .region _ ops draw,e=>(bif draw then xD C ops e else cT C ops ops.toList e).bind fun e'=> .ae (.normal,e')
 | .seq a b,e=>(az C a e).bind fun xe=>match xe.1 with
  | .normal=>az C b xe.2
  |_=> .ae xe
 | .cond c t f,e=>match agV C c with
  |some g=> .aY (ki Y C.N (.cond c t f) g) (g e)
  |none=>match fj e.tm c with
   | .tt=>az C t e
   | .ff=>az C f e
   | .val (.bool b)=> .aj b (az C t (Hw c .tt e)) (az C f (Hw c .ff e))
   |_=> .fail
 | .block id b,e=>match find C.jI id with
  |some g=> .aY (cy Y C.N id b g) (g e)
  |none=>(az C b e).bind fun xe=>match xe.1 with
   | .exit i=> .ae (bif Nat.beq i id then .normal else .exit i,xe.2)
   |_=> .ae xe
 | .loop b,e=>iter (az C b) C.kj e
 | .scope b,e=>match find C.jI 1000000 with
  |some g=> .aY (ki Y C.N (.scope b) g) (g e)
  |none=> .fail
 | .exit id,e=> .ae (.exit id,e)
 | .goto l,e=> .ae (.goto l,e)
 | .ret,e=> .ae (.ret,e)
 |_,_=> .fail
def number:Nat->List SV->List (Nat×SV)
 |_,[]=>[]
 |n,a::r=>(n,a)::number (n+1) r
def mL(tm:List (Nat×SV)):List ResultVar->Option SV
 |[]=>some (.val (.tuple #[]))
 |[.tmp t]=>some (look tm t)
 |[.tmp t,.tmp u]=>match iE (look tm t),iE (look tm u)with
  |some a,some b=>some (.val (.tuple #[a,b]))
  |_,_=>none
 |[.tmp t,.tmp u,.tmp v]=>match iE (look tm t),iE (look tm u),iE (look tm v)with
  |some a,some b,some c=>some (.val (.tuple #[a,b,c]))
  |_,_,_=>none
 |_=>none
def kR{Y:Sys}(fn:Func)(xe:Ex×E Y):af (SV×aq Y):=
 match xe.1 with
 | .normal=>match mL xe.2.tm fn.results.toList with
  |some r=> .ae (r,xe.2.c)
  |none=> .fail
 | .ret=>match mL xe.2.tm fn.results.toList with
  |some r=> .ae (r,xe.2.c)
  |none=> .fail
 |_=> .fail
def eh{Y:Sys}(C:eS Y)(fn:Func)(args:List SV)(c:aq Y):af (SV×aq Y):=
 match fn.body with
 |none=> .fail
 |some b=>bif Nat.beq fn.ntmps C.N&&Nat.ble args.length C.N then(az C b ⟨c,number 0 args⟩).bind (kR fn)else .fail
end
end Ev
end Go.Proofs.YtogkcphobhhbdaaGreatDoor
namespace Go.Proofs.YtogkcphobhhbdaaGreatDoor
open Go Go.RowKit
namespace Ev
set_option maxRecDepth 100000
noncomputable section
theorem eU(w:World)(a:Addr)(v:Value)(k:Nat):ij (w.setCell a v) k=ij w k:=by
 unfold ij World.shape? World.setCell
 simp only[Array.getElem?_modify]
 by_cases h:a.block=k
 ·simp only[h,if_true]
  cases hh:w.heap[k]? with
  |none=>simp
  |some x=>cases x<;>simp
 ·simp[h]
theorem nB(w:World)(o:Obj)(k:Nat)(h:k<w.heap.size):ij (w.alloc o) k=ij w k:=by
 unfold ij World.shape?
 rw[Below.heap_alloc w o k h]
theorem zQ(w:World)(c:Array Value)(t:TypeId):ij (w.alloc (.cells c t)) w.heap.size=some t:=by
 unfold ij World.shape? World.alloc
 simp
theorem qO{Y:Sys}{bl:List Nat}(w:World){b:Nat}(n:Nat)(v:Value)(h:Y.jo b (ij w b)∨b∈bl):Fr Y bl w (w.setCell ⟨b,n,none⟩ v):=by
 refine⟨rfl,rfl,rfl,by simp,fun k _=>eU _ _ _ _,fun k hk ht hb=>Below.heap_setCell _ _ _ _ ?_⟩
 rintro rfl
 rcases h with h|h
 ·exact ht h
 ·exact hb h
theorem oP{Y:Sys}{bl:List Nat}(w:World)(o:Obj):Fr Y bl w (w.alloc o):=
 ⟨rfl,rfl,rfl,by simp,fun k hk=>nB _ _ _ hk,fun k hk _ _=>Below.heap_alloc _ _ _ hk⟩
theorem JU{Y:Sys}{bl:List Nat}(w:World):Fr Y bl w w.drew:=⟨rfl,rfl,rfl,Nat.le_refl _,fun _ _=>rfl,fun _ _ _ _=>rfl⟩
theorem Fr.ext{Y:Sys}{bl:List Nat}{w w':World}(h:Fr Y bl w w'):Ext Y bl bl w w':=⟨h,List.prefix_refl _,fun _ h=> .inl h⟩
theorem xE{bl dw:List Nat}(h:bl<+:dw){i b:Nat}(hb:bl[i]? =some b):dw[i]? =some b:=by
 obtain⟨t,rfl⟩:=h
 have:i<bl.length:=by
  rcases Nat.lt_or_ge i bl.length with h|h
  ·exact h
  ·rw[List.getElem?_eq_none h]at hb;cases hb
 rw[List.getElem?_append_left this];exact hb
theorem nC{Y:Sys}{bl dw:List Nat}{w w':World}{sv:SV}{v:Value}(h:Rel Y bl w sv v)(hp:bl<+:dw)(hs:∀o,w'.cell? ⟨Y.B,o,none⟩=w.cell? ⟨Y.B,o,none⟩):Rel Y dw w' sv v:=by
 cases sv with
 |box i=>obtain⟨b,hb,hv⟩:=h;exact⟨b,xE hp hb,hv⟩
 |fG bs=>obtain⟨o,cap,zO,hv,hc⟩:=h;exact⟨o,cap,zO,hv,fun j hj=>by rw[hs];exact hc j hj⟩
 |DV bs i=>obtain⟨o,hv,hc⟩:=h;exact⟨o,hv,by rw[hs];exact hc⟩
 |_=>exact h
theorem LG{Y:Sys}{bl dw:List Nat}{w w':World}{sv:SV}{v:Value}(h:Rel Y bl w sv v)(hp:bl<+:dw):Rel Y dw w' (Cb sv) v:=by
 cases sv with
 |box i=>obtain⟨b,hb,hv⟩:=h;exact⟨b,xE hp hb,hv⟩
 |fG bs=>exact trivial
 |DV bs i=>exact trivial
 |_=>exact h
theorem Hy(tm:List (Nat×SV))(i:Nat):look (clean tm) i=Cb (look tm i):=by
 induction tm with
 |nil=>rfl
 |cons p r ih=>
  obtain⟨j,v⟩:=p
  simp only[clean,aF,ih]
  split<;>rfl
theorem Hz{Y:Sys}{bl dw:List Nat}{w w':World}{tm:List (Nat×SV)}{a:Act}{d:Bool}(h:∀i,Rel Y bl w (look tm i) (a.tmps.getD i undef))(hp:bl<+:dw)
 (hs:d=false->∀o,w'.cell? ⟨Y.B,o,none⟩=w.cell? ⟨Y.B,o,none⟩):∀i,Rel Y dw w' (look (bif d then clean tm else tm) i) (a.tmps.getD i undef):=by
 intro i
 cases d with
 |true=>simp only[cond_true,Hy];exact LG (h i) hp
 |false=>exact nC (h i) hp (hs rfl)
theorem qP{Y:Sys}(hY:Laws Y){t:TypeId}(ht:Y.one t=true){w:World}{b n:Nat}{u v:Value}(hc:w.cell? ⟨b,n,none⟩=some u)(hf:w.frozen? ⟨b,n,none⟩=false)
 (h1:v.cells=#[v])(h2:∀l,v≠ .tuple l)(h3:∀l,v≠ .agg l):(Instr.storeAt t (.pointer (some ⟨b,n,none⟩)) v).run Y.P w= .ok () (w.setCell ⟨b,n,none⟩ v):=by
 have e:(store ⟨b,n,none⟩ v).run Y.P w= .ok () (w.setCell ⟨b,n,none⟩ v):=by
  unfold store
  cases v<;>simp[Sem.run,hc,hf]<;>first|exact absurd rfl (h2 _)|exact absurd rfl (h3 _)
 have e0:(⟨b,n,none⟩:Addr).add 0=⟨b,n,none⟩:=rfl
 simp only[Instr.storeAt,Instr.sureAddr,storeVar,Sem.run_bind,Sem.run_pure,Result.andThen_ok,(hY.qK ht).2 w,h1]
 simp[storeCells,e0,e]
theorem UL{Y:Sys}(hY:Laws Y){bl:List Nat}{c:aq Y}{w:World}(h:fu Y bl c w){aO:Y.σ}{n:Nat}{v:Value}(hi:Y.Inv aO (w.setCell ⟨Y.S,n,none⟩ v)):
 fu Y bl ⟨aO,c.bx⟩ (w.setCell ⟨Y.S,n,none⟩ v):=by
 have dH:∀b∈bl,b≠Y.S:=fun b hb e=>(h.free b hb).1 (by rw[e];exact hY.tS _)
 refine⟨hi,h.len,h.nd,fun i b u hb hu=> ?_,fun b hb=> ?_⟩
 ·have hm:=List.mem_of_getElem? hb
  rw[World.cell?_setCell_other _ _ _ _ (fun e=>dH b hm (by injection e with e1;exact e1.symm)),World.frozen?_setCell]
  exact h.cell i b u hb hu
 ·rw[eU]
  exact⟨(h.free b hb).1,by simpa using (h.free b hb).2⟩
theorem Z1{bl:List Nat}(h:bl.Nodup){i j b:Nat}(hi:bl[i]? =some b)(hj:bl[j]? =some b):i=j:=by
 have h1:i<bl.length:=by
  rcases Nat.lt_or_ge i bl.length with h|h
  ·exact h
  ·rw[List.getElem?_eq_none h]at hi;cases hi
 exact(List.getElem?_inj h1 h).1 (hi.trans hj.symm)
theorem O_{Y:Sys}(hY:Laws Y){bl:List Nat}{c:aq Y}{w:World}(h:fu Y bl c w){i b:Nat}{v u0:Value}(hb:bl[i]? =some b)(hu0:c.bx[i]? =some u0):
 fu Y bl ⟨c.st,c.bx.set i v⟩ (w.setCell ⟨b,0,none⟩ v):=by
 have hm:=List.mem_of_getElem? hb
 refine⟨hY.ud h.inv (h.free b hm).1,by simp[h.len],h.nd,fun j b' u fX hu=> ?_,fun b' fX=> ?_⟩
 ·rw[World.frozen?_setCell]
  by_cases hij:i=j
  ·subst hij
   have:b=b':=Option.some.inj (hb.symm.trans fX)
   subst this
   have hl:i<c.bx.length:=by
    rcases Nat.lt_or_ge i c.bx.length with h|h
    ·exact h
    ·rw[List.getElem?_eq_none h]at hu0;cases hu0
   simp[hl]at hu
   subst hu
   exact⟨World.cell?_setCell_same _ _ _ (h.cell i b u0 hb hu0).1,(h.cell i b u0 hb hu0).2⟩
  ·simp only[List.getElem?_set,hij,if_false]at hu
   have dH:b≠b':=fun e=>hij (Z1 h.nd hb (e▸fX))
   rw[World.cell?_setCell_other _ _ _ _ (fun e=>dH (by injection e))]
   exact h.cell j b' u fX hu
 ·rw[eU]
  exact⟨(h.free b' fX).1,by simpa using (h.free b' fX).2⟩
theorem qQ{Y:Sys}(hY:Laws Y){bl:List Nat}{c:aq Y}{w:World}(h:fu Y bl c w)(cs:Array Value)(t:TypeId)(ht:Y.sle t∨t=3):fu Y bl c (w.alloc (.cells cs t)):=by
 refine⟨hY.ue h.inv cs t ht,h.len,h.nd,fun i b u hb hu=> ?_,fun b hb=> ?_⟩
 ·have bz:=(h.free b (List.mem_of_getElem? hb)).2
  rw[World.cell?_alloc_lt _ _ _ bz,World.frozen?_alloc_old _ _ _ (Nat.ne_of_lt bz)]
  exact h.cell i b u hb hu
 ·rw[nB _ _ _ (h.free b hb).2]
  exact⟨(h.free b hb).1,by simp;have:=(h.free b hb).2;omega⟩
theorem Pa{Y:Sys}(hY:Laws Y){bl:List Nat}{c:aq Y}{w:World}(h:fu Y bl c w):
 fu Y (bl++[w.heap.size]) ⟨c.st,c.bx++[.int .i64 0]⟩ (w.alloc (.cells #[.int .i64 0] 3)):=by
 have h':=qQ hY h #[.int .i64 0] 3 (.inr rfl)
 refine⟨h'.inv,by simp[h.len],?_,fun i b u hb hu=> ?_,fun b hb=> ?_⟩
 ·rw[List.nodup_append]
  refine⟨h.nd,by simp,fun x hx y hy=> ?_⟩
  simp at hy
  subst hy
  exact Nat.ne_of_lt (h.free x hx).2
 ·rcases Nat.lt_or_ge i bl.length with hi|hi
  ·rw[List.getElem?_append_left hi]at hb
   rw[List.getElem?_append_left (by rw[←h.len];exact hi)]at hu
   exact h'.cell i b u hb hu
  ·rw[List.getElem?_append_right hi]at hb
   rw[List.getElem?_append_right (by rw[←h.len];exact hi)]at hu
   rw[←h.len]at hu
   have h0:i-bl.length=0:=by
    rcases Nat.eq_zero_or_pos (i-bl.length)with h|h
    ·exact h
    ·rw[List.getElem?_eq_none (show [w.heap.size].length<=i-bl.length from h)]at hb;cases hb
   rw[h0]at hb hu
   simp at hb hu
   subst hb hu
   simp
 ·rcases List.mem_append.1 hb with hb|hb
  ·exact h'.free b hb
  ·simp at hb
   subst hb
   refine⟨?_,by simp⟩
   rw[zQ]
   exact hY.Z0 h.inv
theorem Pb{Y:Sys}(hY:Laws Y){bl:List Nat}{c:aq Y}{w:World}(h:fu Y bl c w){aO:Y.σ}{k n:Nat}{v:Value}(ht:∀t,Y.jo k t)(hi:Y.Inv aO (w.setCell ⟨k,n,none⟩ v)):
 fu Y bl ⟨aO,c.bx⟩ (w.setCell ⟨k,n,none⟩ v):=by
 have dH:∀b∈bl,b≠k:=fun b hb e=>(h.free b hb).1 (by rw[e];exact ht _)
 refine⟨hi,h.len,h.nd,fun i b u hb hu=> ?_,fun b hb=> ?_⟩
 ·have hm:=List.mem_of_getElem? hb
  rw[World.cell?_setCell_other _ _ _ _ (fun e=>dH b hm (by injection e with e1;exact e1.symm)),World.frozen?_setCell]
  exact h.cell i b u hb hu
 ·rw[eU]
  exact⟨(h.free b hb).1,by simpa using (h.free b hb).2⟩
theorem xF(w:World)(g:Nat)(cs:Array Value)(k:Nat):ij (w.setRow g cs) k=ij w k:=by
 unfold ij World.shape? World.setRow
 simp only[Array.getElem?_modify]
 by_cases h:g=k
 ·simp only[h,if_true]
  cases hh:w.heap[k]? with
  |none=>simp
  |some x=>cases x<;>simp
 ·simp[h]
theorem size_setRow(w:World)(g:Nat)(cs:Array Value):(w.setRow g cs).heap.size=w.heap.size:=by simp[World.setRow]
theorem LH{Y:Sys}{bl:List Nat}(w:World){g:Nat}(cs:Array Value)(h:∀t,Y.jo g t):Fr Y bl w (w.setRow g cs):=by
 refine⟨rfl,rfl,rfl,by rw[size_setRow];exact Nat.le_refl _,fun k _=>xF _ _ _ _,fun k hk ht hb=>setRow_other _ _ _ _ ?_⟩
 rintro rfl
 exact ht (h _)
theorem Pc{Y:Sys}(hY:Laws Y){bl:List Nat}{c:aq Y}{w:World}(h:fu Y bl c w){aO:Y.σ}{g:Nat}{cs:Array Value}(ht:∀t,Y.jo g t)(hi:Y.Inv aO (w.setRow g cs)):
 fu Y bl ⟨aO,c.bx⟩ (w.setRow g cs):=by
 have dH:∀b∈bl,b≠g:=fun b hb e=>(h.free b hb).1 (by rw[e];exact ht _)
 refine⟨hi,h.len,h.nd,fun i b u hb hu=> ?_,fun b hb=> ?_⟩
 ·have hm:=List.mem_of_getElem? hb
  have hk:(w.setRow g cs).heap[b]? =w.heap[b]? :=setRow_other _ _ _ _ (dH b hm)
  have e1:(w.setRow g cs).cell? ⟨b,0,none⟩=w.cell? ⟨b,0,none⟩:=by simp[World.cell?,hk]
  have e2:(w.setRow g cs).frozen? ⟨b,0,none⟩=w.frozen? ⟨b,0,none⟩:=by simp[World.frozen?,hk]
  rw[e1,e2]
  exact h.cell i b u hb hu
 ·rw[xF,size_setRow]
  exact h.free b hb
theorem As{Y:Sys}(hY:Laws Y){bl:List Nat}{c:aq Y}{w:World}(h:fu Y bl c w):fu Y bl c w.drew:=
 ⟨hY.xx h.inv,h.len,h.nd,h.cell,h.free⟩
theorem nD{Y:Sys}{bl:List Nat}{w:World}{tm:List (Nat×SV)}{a:Act}(ho:∀x,Rel Y bl w (fj tm x) (a.eval x))(l:List Operand):
 oM Y bl w (l.map (fj tm)) (l.map a.eval):=by
 induction l with
 |nil=>exact .nil
 |cons x r ih=>exact .cons (ho x) ih
theorem xG{sv:SV}(h:jV sv=true):sv= .ifc:=by cases sv<;>simp[jV]at h;rfl
theorem Au{Y:Sys}(hY:Laws Y){C:eS Y}(hC:C.Ok){c:aq Y}{bl:List Nat}{w:World}{tm:List (Nat×SV)}{a:Act}{o:Oper}{Q:SV×aq Y×Bool->Prop}
 (hc:fu Y bl c w)(hr:∀i,Rel Y bl w (look tm i) (a.tmps.getD i undef))(h:(mK C tm c o).aD Q){K:Act->World->Prop}{Qx:Exit->Act->World->Prop}
 (hK:∀sv c' d v dw w',Q (sv,c',d)->Rel Y dw w' sv v->fu Y dw c' w'->Ext Y bl dw w w'->(d=false->∀n,w'.cell? ⟨Y.B,n,none⟩=w.cell? ⟨Y.B,n,none⟩)->K (a.put o.dst v) w')
 (hOut:(∃p,Q p∧Y.eM p.2.1.st)->LetsOut Qx):o.wp Y.P a w K Qx:=by
 have ho:=B_ (a:=a) hr
 unfold mK at h
 unfold Oper.wp execOp
 split at h<;>rename_i heq<;>simp only[heq]
 ·
  rename_i t x y
  by_cases ht:Y.one t=true
  ·simp only[ht,cond_true]at h
   have hk:=ho x
   split at h<;>rename_i rV<;>(try rw[rV]at hk)
   ·rename_i n
    split at h
    ·rename_i aO hs
     have OQ:a.eval x= .pointer (some ⟨Y.S,n,none⟩):=hk
     have hy:=ho y
     have key:∀v,nw Y (fj tm y) v->a.eval y=v->o.upon Y.P a K Qx ((do Instr.storeAt t (a.eval x) (a.eval y);pure Next.skip:Sem Next).run Y.P w):=by
      intro v hv he
      obtain⟨⟨u,hu⟩,hf,h1,h2,h3,hi⟩:=hY.xw hc.inv hs hv
      have eg:=qP hY ht hu hf h1 h2 h3
      rw[OQ,he]
      simp only[Sem.run_bind,eg,Result.andThen_ok,Sem.run_pure]
      rw[Oper.upon_skip]
      exact hK _ _ _ _ bl _ h rfl (UL hY hc hi) (qO w n v (.inl (hY.tS _))).ext
       (fun _ m=>World.cell?_setCell_other _ _ _ _ (fun e=>hY.ne (by injection e)))
     cases rY:fj tm y with
     |val u=>rw[rY]at hy key;exact key _ hy rfl
     |tt=>rw[rY]at hy key;exact key _ hy rfl
     |ff=>rw[rY]at hy key;exact key _ hy rfl
     |fn i=>rw[rY]at hy key;exact key _ hy rfl
     |obj i=>rw[rY]at hy key;exact key _ hy rfl
     |jk=>rw[rY]at hy key;exact key _ trivial rfl
     |st m=>
      rw[rY]at hs
      exact(hY.kg hs (by simp[storable])).elim
     |box m=>rw[rY]at hs;exact(hY.kg hs (by simp[storable])).elim
     |fG m=>rw[rY]at hs;exact(hY.kg hs (by simp[storable])).elim
     |DV m k=>rw[rY]at hs;exact(hY.kg hs (by simp[storable])).elim
     |ifc=>rw[rY]at hs;exact(hY.kg hs (by simp[storable])).elim
     |two m k=>rw[rY]at hs;exact(hY.kg hs (by simp[storable])).elim
     |dp m=>rw[rY]at hs;exact(hY.kg hs (by simp[storable])).elim
     |ds m k l=>rw[rY]at hs;exact(hY.kg hs (by simp[storable])).elim
    ·exact h.elim
   ·rename_i i
    obtain⟨b,hb,hv⟩:=hk
    split at h
    ·rename_i k n hyv
     have hy:=ho y
     rw[hyv]at hy
     have hm:=List.mem_of_getElem? hb
     have hi:i<c.bx.length:=by
      rw[←hc.len]
      rcases Nat.lt_or_ge i bl.length with h|h
      ·exact h
      ·rw[List.getElem?_eq_none h]at hb;cases hb
     obtain⟨cF,qn⟩:=hc.cell i b c.bx[i] hb (List.getElem?_eq_getElem hi)
     have eg:=qP hY ht cF qn (v:= .int k n) rfl (by simp) (by simp)
     rw[hv,show a.eval y=_ from hy]
     simp only[Sem.run_bind,eg,Result.andThen_ok,Sem.run_pure]
     rw[Oper.upon_skip]
     exact hK _ _ _ _ bl _ h rfl (O_ hY hc hb (List.getElem?_eq_getElem hi)) (qO w 0 _ (.inr hm)).ext
      (fun _ m=>World.cell?_setCell_other _ _ _ _ (fun e=>(hc.free b hm).1 (by injection e with e1;rw[e1];exact hY.tB _)))
    ·exact h.elim
   ·rename_i i
    split at h
    ·rename_i aO hs
     have OQ:a.eval x= .pointer (some ⟨Y.D,i,none⟩):=hk
     have hy:=ho y
     have key:∀v,nw Y (fj tm y) v->a.eval y=v->o.upon Y.P a K Qx ((do Instr.storeAt t (a.eval x) (a.eval y);pure Next.skip:Sem Next).run Y.P w):=by
      intro v hv he
      obtain⟨⟨u,hu⟩,hf,h1,h2,h3,hi,htb,hbB⟩:=hY.rU hc.inv hs h.1 hv
      have eg:=qP hY ht hu hf h1 h2 h3
      rw[OQ,he]
      simp only[Sem.run_bind,eg,Result.andThen_ok,Sem.run_pure]
      rw[Oper.upon_skip]
      exact hK _ _ _ _ bl _ h.2 rfl (Pb hY hc htb hi) (qO w i v (.inl (htb _))).ext
       (fun _ m=>World.cell?_setCell_other _ _ _ _ (fun e=>hbB (by injection e)))
     cases rY:fj tm y with
     |val u=>rw[rY]at hy key;exact key _ hy rfl
     |tt=>rw[rY]at hy key;exact key _ hy rfl
     |ff=>rw[rY]at hy key;exact key _ hy rfl
     |fn i=>rw[rY]at hy key;exact key _ hy rfl
     |obj i=>rw[rY]at hy key;exact key _ hy rfl
     |jk=>rw[rY]at hy key;exact key _ trivial rfl
     |st m=>rw[rY]at hs;exact(hY.h_ hs (by simp[storable])).elim
     |box m=>rw[rY]at hs;exact(hY.h_ hs (by simp[storable])).elim
     |fG m=>rw[rY]at hs;exact(hY.h_ hs (by simp[storable])).elim
     |DV m k=>rw[rY]at hs;exact(hY.h_ hs (by simp[storable])).elim
     |ifc=>rw[rY]at hs;exact(hY.h_ hs (by simp[storable])).elim
     |two m k=>rw[rY]at hs;exact(hY.h_ hs (by simp[storable])).elim
     |dp m=>rw[rY]at hs;exact(hY.h_ hs (by simp[storable])).elim
     |ds m k l=>rw[rY]at hs;exact(hY.h_ hs (by simp[storable])).elim
    ·exact h.elim
   ·exact h.elim
  ·simp only[ht,cond_false,af.aD]at h
 ·
  rename_i t
  cases hb:Nat.beq t 3 with
  |false=>simp only[hb,cond_false,af.aD]at h
  |true=>
   have:=Nat.eq_of_beq_eq_true hb
   subst this
   simp only[hb,cond_true]at h
   simp only[Sem.run_bind,hY.Aq w,Result.andThen_ok,Sem.run_pure]
   rw[Oper.upon_value]
   refine hK _ _ _ _ (bl++[w.heap.size]) _ h ⟨w.heap.size,by rw[←hc.len];simp,rfl⟩ (Pa hY hc) ⟨oP w _,List.prefix_append _ _,fun b hb=> ?_⟩
    (fun _ m=>World.cell?_alloc_lt _ _ _ (hY.lt hc.inv).2)
   rcases List.mem_append.1 hb with hb|hb
   ·exact .inl hb
   ·simp at hb;subst hb;exact .inr (Nat.le_refl _)
 ·
  rename_i t len parts
  by_cases ht:Y.vg t=true
  ·simp only[ht,cond_true]at h
   split at h
   ·rename_i x hp
    obtain rfl:parts=#[(0,x)]:=by apply Array.toList_inj.1;exact hp
    cases hi:jV (fj tm x)with
    |false=>simp only[hi,cond_false,af.aD]at h
    |true=>
     simp only[hi,cond_true]at h
     have h1:=ho x
     rw[xG hi]at h1
     obtain⟨tx,vx,hx⟩:=h1
     obtain⟨cs,e,he,eg⟩:=hY.JS ht [a.eval x] (by intro v hv;simp at hv;subst hv;exact⟨_,_,hx⟩) (by simp) (by simp) w
     have Ar:(Instr.buildSlice t 1 (Array.map (fun x=>(x.1,a.eval x.2)) #[(0,x)])).run Y.P w= .ok (.slice (some ⟨w.heap.size,0,none⟩) 1 1) (w.alloc (.cells cs e)):=by
      simpa[List.zipIdx] using eg
     simp only[Sem.run_bind,Ar,Result.andThen_ok,Sem.run_pure]
     rw[Oper.upon_value]
     exact hK _ _ _ _ bl _ h trivial (qQ hY hc cs e (.inl he)) (oP w _).ext (fun _ m=>World.cell?_alloc_lt _ _ _ (hY.lt hc.inv).2)
   ·rename_i x y hp
    obtain rfl:parts=#[(0,x),(1,y)]:=by apply Array.toList_inj.1;exact hp
    cases hi:jV (fj tm x)with
    |false=>simp only[hi,Bool.false_and,cond_false,af.aD]at h
    |true=>
     cases hj:jV (fj tm y)with
     |false=>simp only[hi,hj,Bool.and_false,cond_false,af.aD]at h
     |true=>
      simp only[hi,hj,Bool.and_self,cond_true]at h
      have h1:=ho x
      rw[xG hi]at h1
      obtain⟨tx,vx,hx⟩:=h1
      have h2:=ho y
      rw[xG hj]at h2
      obtain⟨ty,vy,hy⟩:=h2
      obtain⟨cs,e,he,eg⟩:=hY.JS ht [a.eval x,a.eval y] (by intro v hv;simp at hv;rcases hv with rfl|rfl;exact⟨_,_,hx⟩;exact⟨_,_,hy⟩) (by simp) (by simp) w
      have Ar:(Instr.buildSlice t 2 (Array.map (fun x=>(x.1,a.eval x.2)) #[(0,x),(1,y)])).run Y.P w= .ok (.slice (some ⟨w.heap.size,0,none⟩) 2 2) (w.alloc (.cells cs e)):=by
       simpa[List.zipIdx] using eg
      simp only[Sem.run_bind,Ar,Result.andThen_ok,Sem.run_pure]
      rw[Oper.upon_value]
      exact hK _ _ _ _ bl _ h trivial (qQ hY hc cs e (.inl he)) (oP w _).ext (fun _ m=>World.cell?_alloc_lt _ _ _ (hY.lt hc.inv).2)
   ·exact h.elim
  ·simp only[ht,cond_false,af.aD]at h
 ·
  rename_i f args OR
  split at h
  ·rename_i n
   split at h
   ·rename_i s hs
    obtain⟨⟨hen,ia,_⟩,hf,YX⟩:=hC.uf _ (gU hs)
    simp only at hf YX
    rw[ax]at h
    have xH:=ia (args.toList.map (fj tm)) c bl w (args.toList.map a.eval) _ (nD ho _) hc h
    have eg:((do let d ←resolve a.eval {callee:= .value (.func n),args:=args,argTypes:=OR} o.type;invoke d.target d.args:Sem Next)).run Y.P w= .ok (.enter s.f ((args.toList.map a.eval).toArray++s.kQ)) w:=by
     have e1:(args.toList.map a.eval).toArray=args.map a.eval:=by rw[←Array.toList_map,Array.toArray_toList]
     simp only[resolve,Act.eval,Deferred.ofValue,Sem.run_bind,Sem.run_pure,Result.andThen_ok,invoke,←hf]
     rw[hen,YX,e1]
     simp
    rw[eg,Oper.upon_enter]
    refine xH.mono ?_
    rintro e w' (⟨sv,c',v,dw,hq,rfl,hrel,hinv,bN,kk⟩|⟨rfl,p,hq,qo⟩)
    ·exact hK _ _ _ _ _ _ hq hrel hinv bN kk
    ·exact hOut ⟨_,hq,qo⟩
   ·exact h.elim
  ·rename_i hnf
   have hk:=ho f
   split at h<;>rename_i rV<;>(try rw[rV]at hk)
   ·rename_i i
    split at h
    ·rename_i s hs
     obtain⟨⟨hen,ia,_⟩,hfv⟩:=hC.fns _ (gU hs)
     simp only at hfv
     rw[ax]at h
     have xH:=ia (args.toList.map (fj tm)) c bl w (args.toList.map a.eval) _ (nD ho _) hc h
     have Z2:a.eval f= .func (.func s.f) #[] s.kQ:=by rw[show a.eval f=Y.fnv i from hk,hfv]
     have eg:((do let d ←resolve a.eval {callee:= .value f,args:=args,argTypes:=OR} o.type;invoke d.target d.args:Sem Next)).run Y.P w= .ok (.enter s.f ((args.toList.map a.eval).toArray++s.kQ)) w:=by
      have e1:(args.toList.map a.eval).toArray=args.map a.eval:=by rw[←Array.toList_map,Array.toArray_toList]
      simp only[resolve,Z2,Deferred.ofValue,Sem.run_bind,Sem.run_pure,Result.andThen_ok,invoke]
      rw[hen,e1]
      simp
     rw[eg,Oper.upon_enter]
     refine xH.mono ?_
     rintro e w' (⟨sv,c',v,dw,hq,rfl,hrel,hinv,bN,kk⟩|⟨rfl,p,hq,qo⟩)
     ·exact hK _ _ _ _ _ _ hq hrel hinv bN kk
     ·exact hOut ⟨_,hq,qo⟩
    ·exact h.elim
   ·exact h.elim
 ·
  rename_i args OR
  split at h
  ·rename_i x y t t' hx ht
   obtain rfl:args=#[x,y]:=by apply Array.toList_inj.1;exact hx
   obtain rfl:OR=#[t,t']:=by apply Array.toList_inj.1;exact ht
   cases DP:Y.lL t with
   |false=>simp only[DP,cond_false,af.aD]at h
   |true=>
    simp only[DP,cond_true]at h
    have h1:=ho x
    have h2:=ho y
    split at h
    ·rename_i o1 n nc so m mc hx hy
     rw[hx]at h1
     rw[hy]at h2
     split at h
     ·rename_i aO hs
      obtain⟨cur,ct,cs,hg,hlen,wg,Pd,Cc,hi,htg,hgB⟩:=hY.xz hc.inv hs h.1
      obtain⟨e,e1,e2,e3⟩:=hY.qu DP
      have eg:=run_copy_row (P:=Y.P) w t t' o.type e Y.D o1 n nc ⟨Y.D,so,none⟩ m mc cur ct cs e1 (hY.Hr DP e e1) hg hlen (fun j v hv=>by rw[add_zero];exact wg j v hv) (by rw[hlen];exact Pd) Cc
      have e1':a.eval x=_:=h1
      have e2':a.eval y=_:=h2
      simp only[resolve,invoke,builtin,Sem.run_bind,Sem.run_pure,Result.andThen_ok,List.map_toArray,List.map_cons,List.map_nil,e1',e2',eg]
      rw[Oper.upon_value]
      rw[List.append_assoc]
      refine hK _ _ _ _ bl _ h.2 ?_ (Pc hY hc htg hi) (LH w _ htg).ext (fun _ m=> ?_)
      ·rw[hlen];rfl
      ·have hk:(w.setRow Y.D (cur.toList.take o1++(cs++cur.toList.drop (o1+cs.length))).toArray).heap[Y.B]? =w.heap[Y.B]? :=setRow_other _ _ _ _ (fun e=>hgB e.symm)
       simp[World.cell?,hk]
     ·exact h.elim
    ·exact h.elim
  ·exact h.elim
 ·
  rename_i r name args OR
  have hk:=ho r
  split at h<;>rename_i rV<;>(try rw[rV]at hk)
  ·rename_i t ad
   split at h
   ·rename_i nm s hs
    obtain⟨hnm,h⟩:=h
    subst hnm
    obtain⟨⟨hen,ia,_⟩,hd,_,wi⟩:=hC.rX _ (gU hs)
    simp only at wi
    rw[ax]at h
    have xH:=ia (.val (.pointer (some ad))::args.toList.map (fj tm)) c bl w (.pointer (some ad)::args.toList.map a.eval) _ (.cons rfl (nD ho _)) hc h
    have eg:((do let d ←resolve a.eval {callee:= .invoke r name,args:=args,argTypes:=OR} o.type;invoke d.target d.args:Sem Next)).run Y.P w= .ok (.enter s.f ((.pointer (some ad)::args.toList.map a.eval).toArray++s.kQ)) w:=by
     have e1:(args.toList.map a.eval).toArray=args.map a.eval:=by rw[←Array.toList_map,Array.toArray_toList]
     have e2:(#[(Value.iface t (.pointer (some ad)))]++args.map a.eval).extract 1 (#[(Value.iface t (.pointer (some ad)))]++args.map a.eval).size=args.map a.eval:=by
      apply Array.ext'
      simp
      exact List.take_of_length_le (by simp)
     simp only[resolve,Sem.run_bind,Sem.run_pure,Result.andThen_ok,invoke,show a.eval r=_ from hk]
     have e3:(#[(Value.iface t (.pointer (some ad)))]++args.map a.eval)[0]? =some (Value.iface t (.pointer (some ad))):=by rw[Array.getElem?_append_left (Nat.zero_lt_one)];rfl
     rw[e3]
     simp only[]
     rw[e2,wi]
     congr 2
     apply Array.ext'
     simp
    rw[eg,Oper.upon_enter]
    refine xH.mono ?_
    rintro e w' (⟨sv,c',v,dw,hq,rfl,hrel,hinv,bN,kk⟩|⟨rfl,p,hq,qo⟩)
    ·exact hK _ _ _ _ _ _ hq hrel hinv bN kk
    ·exact hOut ⟨_,hq,qo⟩
   ·exact h.elim
  ·exact h.elim
 ·exact h.elim
theorem D4{Y:Sys}(hY:Laws Y){C:eS Y}(hC:C.Ok){c:aq Y}{tm:List (Nat×SV)}{o:Oper}{Q:SV×aq Y×Bool->Prop}(hb:Y.eM c.st)
 (h:(mK C tm c o).aD Q):∃p,Q p∧Y.eM p.2.1.st:=by
 unfold mK at h
 split at h
 ·rename_i t x y _
  cases ht:Y.one t with
  |false=>simp only[ht,cond_false,af.aD]at h
  |true=>
   simp only[ht,cond_true]at h
   split at h
   ·split at h
    ·rename_i aO hs;exact⟨_,h,hY.B8 hs hb⟩
    ·exact h.elim
   ·split at h
    ·exact⟨_,h,hb⟩
    ·exact h.elim
   ·split at h
    ·rename_i aO hs;exact⟨_,h.2,hY.xy hs hb⟩
    ·exact h.elim
   ·exact h.elim
 ·rename_i t _
  cases ht:Nat.beq t 3 with
  |false=>simp only[ht,cond_false,af.aD]at h
  |true=>simp only[ht,cond_true]at h;exact⟨_,h,hb⟩
 ·rename_i t len parts _
  cases ht:Y.vg t with
  |false=>simp only[ht,cond_false,af.aD]at h
  |true=>
   simp only[ht,cond_true]at h
   split at h
   ·rename_i x _ _
    cases hi:jV (fj tm x)with
    |false=>simp only[hi,cond_false,af.aD]at h
    |true=>simp only[hi,cond_true]at h;exact⟨_,h,hb⟩
   ·rename_i x y _ _
    cases hi:jV (fj tm x)&&jV (fj tm y)with
    |false=>simp only[hi,cond_false,af.aD]at h
    |true=>simp only[hi,cond_true]at h;exact⟨_,h,hb⟩
   ·exact h.elim
 ·rename_i f args OR _
  split at h
  ·split at h
   ·rename_i s hs
    rw[ax]at h
    obtain⟨p,hp,fX⟩:=(hC.uf _ (gU hs)).1.mono _ _ _ hb h
    exact⟨_,hp,fX⟩
   ·exact h.elim
  ·split at h
   ·split at h
    ·rename_i s hs
     rw[ax]at h
     obtain⟨p,hp,fX⟩:=(hC.fns _ (gU hs)).1.mono _ _ _ hb h
     exact⟨_,hp,fX⟩
    ·exact h.elim
   ·exact h.elim
 ·rename_i args OR _
  split at h
  ·rename_i x y t t' _ _
   cases DP:Y.lL t with
   |false=>simp only[DP,cond_false,af.aD]at h
   |true=>
    simp only[DP,cond_true]at h
    split at h
    ·split at h
     ·rename_i aO hs;exact⟨_,h.2,hY.B9 hs hb⟩
     ·exact h.elim
    ·exact h.elim
  ·exact h.elim
 ·split at h
  ·split at h
   ·rename_i nm s hs
    obtain⟨_,h⟩:=h
    rw[ax]at h
    obtain⟨p,hp,fX⟩:=(hC.rX _ (gU hs)).1.mono _ _ _ hb h
    exact⟨_,hp,fX⟩
   ·exact h.elim
  ·exact h.elim
 ·exact h.elim
end
end Ev
end Go.Proofs.YtogkcphobhhbdaaGreatDoor
