/- The scanner of the program told as plain functions, part 3: texts joined and shortened by a program (wip/tools/mini.py). -/
import Derived.Test.YtogkcphobhhbdaaGreatDoorYc2
import Derived.Test.YtogkcphobhhbdaaGreatDoorProg
import Derived.Shelf.Unicode.PredsPay
import Derived.Shelf.Unicode.DecodeAny
import Derived.WalkSpells
import Derived.OneCell
import Derived.Deep.QuietTactic
import Derived.BigQuiet
import Derived.Lib.Hide
import Derived.Handy
import Derived.Laws.CopyOwn
import Derived.Room.AppendOwn
import Derived.Deep.DeepAppendRoom
import Derived.ScopeJumps
set_option linter.unusedVariables false
set_option linter.unusedSimpArgs false
set_option maxHeartbeats 32000000
namespace Go.Proofs.YtogkcphobhhbdaaGreatDoor
open Go Go.RowKit
namespace Sc
open Ev
set_option maxRecDepth 100000
noncomputable section
structure Ad where
 w0:World
 s:Nat
 buf:Nat
 rd:Nat
 e:Nat
 sb:Nat
 base:Nat
 cb:Nat
 ea:Addr
 O:U
def Ad.eof(A:Ad):Value:= .iface 165 (.pointer (some A.ea))
structure oU(w:World)(ea:Addr):Prop where
 eof:w.cell? ⟨6,0,none⟩=some (.iface 165 (.pointer (some ea)))
 Pn:Lib.Utf8Tabs 7 8 w
 props:Lib.TabIs Tryz.prog w "unicode.properties" .u8 Lib.propertiesTab
 letter:Lib.RVar 4 Lib.letterT w
 digit:Lib.RVar 5 Lib.digitT w
 tix:∀i,i<48->w.cell? ⟨0,i,none⟩=some (.int .u8 ([0,3,7,14,16,19,23,24,26,28,29,30,31,32,33,34,35,36,37,38,39,42,47,51,55,60,68,75,80,84,95,98,102,104,108,110,116,125,128,135,140,146,152,158,164,168,171,171].getD i 0))
 oix:∀i,i<24->w.cell? ⟨1,i,none⟩=some (.int .u8 ([0,1,2,4,5,7,9,11,13,14,16,17,19,20,21,22,23,24,25,26,27,29,31,33].getD i 0))
 size:13<=w.heap.size
structure Ad.Ok(A:Ad):Prop where
 jU:oU A.w0 A.ea
 n1:A.O.size<=2048
 J0:A.w0.heap.size<=A.sb
 ag5:A.w0.heap.size<=A.e
 UX:A.w0.heap.size<=A.s
 adA:A.w0.heap.size<=A.rd
 Po:A.w0.heap.size<=A.buf
 qT:A.sb<A.e
 Eb:A.e<A.s
 mP:A.s<A.rd
 fv:A.rd<A.buf
 dy:A.buf<A.base
structure Raw where
 buf:U
 io:Bool
 b:Int
 r:Int
 e:Int
 aC:Int
 aL:Int
 ch:Int
 bD:Int
 mode:Int
 au:Bool
 line:Int
 aM:Int
 blank:Bool
 tok:Int
 lit:U
 bad:Bool
 kind:Int
 op:Int
 prec:Int
 m:Nat
 ab:List e_
def cZ:List e_->List Value
 |[]=>[]
 |n::r=> .int .u64 n.line:: .int .u64 n.aM:: .string n.msg::cZ r
theorem uk(x y:List e_):cZ (x++y)=cZ x++cZ y:=by
 induction x with
 |nil=>rfl
 |cons n r ih=>simp[cZ,ih]
def eV(A:Ad)(x:Raw):Array Value:=
 #[.iface 92 (.pointer (some ⟨A.rd,0,none⟩)),.func (.func 47) #[] #[.pointer (some ⟨A.e,0,none⟩)],.slice (some ⟨A.buf,0,none⟩) 4096 4096,
  (if x.io then A.eof else .nilIface),.int .i64 x.b,.int .i64 x.r,.int .i64 x.e,.int .u64 x.aC,.int .u64 x.aL,.int .i32 x.ch,.int .i64 x.bD,
  .int .u64 x.mode,.bool x.au,.int .u64 x.line,.int .u64 x.aM,.bool x.blank,.int .u64 x.tok,.string x.lit,.bool x.bad,.int .u8 x.kind,.int .u64 x.op,.int .i64 x.prec]
def bM(bs:U):Array Value:=bs.data.map fun b=> .int .u8 (b.toNat:Int)
structure fa(A:Ad)(x:Raw)(w:World):Prop where
 ok:A.Ok
 below:Below A.w0.heap.size A.w0 w
 hs:w.heap[A.s]? =some (.cells (eV A x) 90 (0,0))
 hb:w.heap[A.buf]? =some (.cells (bM x.buf) 5 (0,0))
 wH:x.buf.size=4096
 hr:w.heap[A.rd]? =some (.cells #[.slice (some ⟨A.sb,0,none⟩) A.O.size A.cb,.int .i64 x.m,.int .i64 (-1)] 100 (0,0))
 wg:∀j,j<A.O.size->w.cell? ⟨A.sb,j,none⟩=some (.int .u8 (A.O.get! j).toNat)
 he:∃v,w.heap[A.e]? =some (.cells #[v] 63 (0,0))∧w.ownsRow A.base 70 3 v x.ab.length (cZ x.ab)
 gj:A.base<=w.heap.size
def HP(x:Raw):Nat->Option SV
 |1=>some (.fn 0)
 |2=>some (.fG x.buf)
 |3=>bif x.io then some (.obj 0)else some (.val .nilIface)
 |4=>some (.val (.int .i64 x.b))
 |5=>some (.val (.int .i64 x.r))
 |6=>some (.val (.int .i64 x.e))
 |7=>some (.val (.int .u64 x.aC))
 |8=>some (.val (.int .u64 x.aL))
 |9=>some (.val (.int .i32 x.ch))
 |10=>some (.val (.int .i64 x.bD))
 |11=>some (.val (.int .u64 x.mode))
 |12=>some (.val (.bool x.au))
 |13=>some (.val (.int .u64 x.line))
 |14=>some (.val (.int .u64 x.aM))
 |15=>some (.val (.bool x.blank))
 |16=>some (.val (.int .u64 x.tok))
 |17=>some (.val (.string x.lit))
 |18=>some (.val (.bool x.bad))
 |19=>some (.val (.int .u8 x.kind))
 |20=>some (.val (.int .u64 x.op))
 |21=>some (.val (.int .i64 x.prec))
 |_=>none
def gk:SV->Option Bool
 | .tt=>some true
 | .ff=>some false
 | .val (.bool b)=>some b
 |_=>none
def fh(k:IntKind):SV->Option Int
 | .val (.int k' n)=>bif decide (k=k')then some n else none
 |_=>none
def Ec:SV->Option U
 | .val (.string s)=>some s
 |_=>none
def xQ(x:Raw)(o:Nat)(v:SV):Option Raw:=
 match o with
 |4=>(fh .i64 v).map fun n=>{x with b:=n}
 |5=>(fh .i64 v).map fun n=>{x with r:=n}
 |7=>(fh .u64 v).map fun n=>{x with aC:=n}
 |8=>(fh .u64 v).map fun n=>{x with aL:=n}
 |9=>(fh .i32 v).map fun n=>{x with ch:=n}
 |10=>(fh .i64 v).map fun n=>{x with bD:=n}
 |12=>(gk v).map fun n=>{x with au:=n}
 |13=>(fh .u64 v).map fun n=>{x with line:=n}
 |14=>(fh .u64 v).map fun n=>{x with aM:=n}
 |15=>(gk v).map fun n=>{x with blank:=n}
 |16=>(fh .u64 v).map fun n=>{x with tok:=n}
 |17=>(Ec v).map fun n=>{x with lit:=n}
 |18=>(gk v).map fun n=>{x with bad:=n}
 |19=>(fh .u8 v).map fun n=>{x with kind:=n}
 |20=>(fh .u64 v).map fun n=>{x with op:=n}
 |21=>(fh .i64 v).map fun n=>{x with prec:=n}
 |_=>none
def zR:Nat:=1099511627776
def UY:Nat->Option IntKind
 |3=>some .i64
 |5=>some .u8
 |21=>some .i32
 |66=>some .u64
 |86=>some .u64
 |87=>some .u8
 |88=>some .u64
 |125=>some .u64
 |109=>some .u32
 |_=>none
def J1:Nat->Bool
 |3=>true
 |4=>true
 |5=>true
 |9=>true
 |21=>true
 |66=>true
 |86=>true
 |87=>true
 |88=>true
 |83=>true
 |40=>true
 |81=>true
 |80=>true
 |_=>false
def Z_(s f:Nat):Option Nat:=
 bif Nat.beq s 85 then(bif Nat.blt f 11 then some f else none)
 else bif Nat.beq s 90 then(bif Nat.beq f 0 then some 0 else bif Nat.blt f 12 then some (f+10)else none)
 else none
def Ck:Nat->Bool
 |3=>true
 |9=>true
 |21=>true
 |66=>true
 |5=>true
 |109=>true
 |_=>false
def mQ(A:Ad)(B:Nat)(σ:Type)(get:σ->Nat->Option SV)(set:σ->Nat->SV->Option σ)(Inv:σ->World->Prop)(ab:σ->List e_)
 (qm:σ->Nat->SV->Option σ)(JR:σ->Nat->Nat->Nat->Option σ)(OO:σ->Nat->Prop)(OP:σ->Nat->Nat->Nat->Prop):Ev.Sys where
 P:=Tryz.prog
 σ:=σ
 S:=A.s
 B:=B
 get:=get
 set:=set
 fnv:=fun _=> .func (.func 47) #[] #[.pointer (some ⟨A.e,0,none⟩)]
 Inv:=Inv
 jo:=fun k t=>k<A.w0.heap.size∨k=A.s∨k=A.buf∨k=A.rd∨k=A.e∨k=A.sb∨(A.base<=k∧t=some 70)
 ik:=UY
 one:=J1
 fo:=Z_
 isStr:=fun t=>Nat.beq t 9
 lL:=fun t=>Nat.beq t 40
 Ap:=Ck
 vg:=fun t=>Nat.beq t 131
 sle:=fun e=>e=20
 eM:=fun x=>zR<=(ab x).length
 xr:=fun _=>A.eof
 jU:=fun g=>bif Nat.beq g 6 then some (.obj 0)else none
 UK:=fun t=>Nat.beq t 83
 D:=A.buf
 qm:=qm
 JR:=JR
 OO:=OO
 OP:=OP
def RY(A:Ad):Ev.Sys:=mQ A A.buf Raw HP xQ (fa A) (·.ab) (fun _ _ _=>none) (fun _ _ _ _=>none) (fun _ _=>True) (fun _ _ _ _=>True)
def UZ(A:Ad)(x:Raw):Nat->Option SV
 |0=>some (.val (.iface 92 (.pointer (some ⟨A.rd,0,none⟩))))
 |2=>some (.ds 0 4096 4096)
 |o=>HP x o
def Ed(x:Raw):Nat->SV->Option Raw
 |3,.obj _=>some {x with io:=true}
 |3,.val .nilIface=>some {x with io:=false}
 |6,v=>(fh .i64 v).map fun n=>{x with e:=n}
 |o,v=>xQ x o v
def wk(bs:U)(o so n:Nat):U:=⟨(bs.data.toList.take o++((bs.data.toList.drop so).take n++bs.data.toList.drop (o+n))).toArray⟩
def vA(x:Raw)(i:Nat)(v:SV):Option Raw:=
 match v with
 | .val (.int .u8 128)=>some {x with buf:=x.buf.set! i 128}
 |_=>none
def LV(x:Raw)(o so n:Nat):Option Raw:=some {x with buf:=wk x.buf o so n}
def FY(A:Ad):Ev.Sys:=mQ A A.sb Raw (UZ A) Ed (fa A) (·.ab) vA LV (fun _ i=>i<4096) (fun _ o so n=>o+n<=4096∧so+n<=4096)
theorem adB(a:Addr)(w:World)(d:Nat):(Op.equalIn (d+1) 83 (.iface 165 (.pointer (some a))) .nilIface).run Tryz.prog w= .ok false w:=by
 rw[Op.equalIn]
 simp only[Sem.run_bind,run_underlying Tryz.underlying83,Result.andThen_ok]
 rfl
theorem adC(w:World)(d:Nat):(Op.equalIn (d+1) 83 .nilIface .nilIface).run Tryz.prog w= .ok true w:=by
 rw[Op.equalIn]
 simp only[Sem.run_bind,run_underlying Tryz.underlying83,Result.andThen_ok]
 rfl
theorem Pp:Tryz.t165.comparable=true:=by kernel_rfl
theorem ag6(a:Addr)(w:World)(d:Nat):(Op.equalIn (d+1+1) 83 (.iface 165 (.pointer (some a))) (.iface 165 (.pointer (some a)))).run Tryz.prog w= .ok true w:=by
 rw[Op.equalIn]
 simp only[Sem.run_bind,run_underlying Tryz.underlying83,Result.andThen_ok]
 rw[Op.equalIn]
 simp[go_sem,sameAddr,Pp]
theorem ag7(a:Addr)(w:World):(binOp .eql 83 (.iface 165 (.pointer (some a))) .nilIface).run Tryz.prog w= .ok (.bool false) w:=by
 have:=adB a w 9999
 simp only[binOp,Op.equal,Op.maxDepth,Sem.run_bind]
 rw[this];rfl
theorem ag8(a:Addr)(w:World):(binOp .neq 83 (.iface 165 (.pointer (some a))) .nilIface).run Tryz.prog w= .ok (.bool true) w:=by
 have:=adB a w 9999
 simp only[binOp,Op.equal,Op.maxDepth,Sem.run_bind]
 rw[this];rfl
theorem ag9(a:Addr)(w:World):(binOp .neq 83 (.iface 165 (.pointer (some a))) (.iface 165 (.pointer (some a)))).run Tryz.prog w= .ok (.bool false) w:=by
 have:=ag6 a w 9998
 simp only[binOp,Op.equal,Op.maxDepth,Sem.run_bind]
 rw[this];rfl
theorem ag_(w:World):(binOp .eql 83 .nilIface .nilIface).run Tryz.prog w= .ok (.bool true) w:=by
 have:=adC w 9999
 simp only[binOp,Op.equal,Op.maxDepth,Sem.run_bind]
 rw[this];rfl
theorem aha(w:World):(binOp .neq 83 .nilIface .nilIface).run Tryz.prog w= .ok (.bool false) w:=by
 have:=adC w 9999
 simp only[binOp,Op.equal,Op.maxDepth,Sem.run_bind]
 rw[this];rfl
theorem xA{t:TypeId}{k:IntKind}(h:UY t=some k):Tryz.prog.underlying t=some (.int k):=by
 unfold UY at h
 split at h<;>simp only[Option.some.injEq,reduceCtorEq]at h<;>subst h<;>simp[go_sem]
theorem qK{t:TypeId}(h:J1 t=true):(∀w,(isAgg t).run Tryz.prog w= .ok false w)∧(∀w,(sizeOf t).run Tryz.prog w= .ok 1 w):=by
 unfold J1 at h
 split at h<;>first|(cases h;done)|exact⟨fun w=>by simp[go_sem],fun w=>by simp[go_sem]⟩
theorem Pq{t:TypeId}(h:Ck t=true)(x:Value)(w:World):(Instr.makeInterface t x).run Tryz.prog w= .ok (.iface t x) w:=by
 unfold Ck at h
 split at h<;>first|(cases h;done)|simp[go_sem]
theorem fo1(f:Nat)(hf:f<11)(b n:Nat)(w:World):(Instr.fieldAt 85 (.pointer (some ⟨b,n,none⟩)) f).run Tryz.prog w= .ok (.pointer (some ⟨b,n+f,none⟩)) w:=by
 have:f=0∨f=1∨f=2∨f=3∨f=4∨f=5∨f=6∨f=7∨f=8∨f=9∨f=10:=by omega
 rcases this with rfl|rfl|rfl|rfl|rfl|rfl|rfl|rfl|rfl|rfl|rfl<;>simp[go_sem]
theorem fo2(f:Nat)(h0:f≠0)(hf:f<12)(b n:Nat)(w:World):(Instr.fieldAt 90 (.pointer (some ⟨b,n,none⟩)) f).run Tryz.prog w= .ok (.pointer (some ⟨b,n+(f+10),none⟩)) w:=by
 have:f=1∨f=2∨f=3∨f=4∨f=5∨f=6∨f=7∨f=8∨f=9∨f=10∨f=11:=by omega
 rcases this with rfl|rfl|rfl|rfl|rfl|rfl|rfl|rfl|rfl|rfl|rfl<;>simp[go_sem]
theorem fo0(b n:Nat)(w:World):(Instr.fieldAt 90 (.pointer (some ⟨b,n,none⟩)) 0).run Tryz.prog w= .ok (.pointer (some ⟨b,n,none⟩)) w:=by
 simp[go_sem]
theorem DX{s f o:Nat}(h:Z_ s f=some o)(b n:Nat)(w:World):(Instr.fieldAt s (.pointer (some ⟨b,n,none⟩)) f).run Tryz.prog w= .ok (.pointer (some ⟨b,n+o,none⟩)) w:=by
 unfold Z_ at h
 cases h1:Nat.beq s 85 with
 |true=>
  have e1:=Nat.eq_of_beq_eq_true h1
  rw[h1]at h
  cases hb:Nat.blt f 11 with
  |false=>rw[hb]at h;cases h
  |true=>
   rw[hb]at h
   obtain rfl:f=o:=by simpa using h
   rw[e1]
   exact fo1 f (Nat.le_of_ble_eq_true hb) b n w
 |false=>
  rw[h1]at h
  cases h2:Nat.beq s 90 with
  |false=>rw[h2]at h;cases h
  |true=>
   have e2:=Nat.eq_of_beq_eq_true h2
   rw[h2]at h
   rw[e2]
   cases h3:Nat.beq f 0 with
   |true=>
    have e3:=Nat.eq_of_beq_eq_true h3
    rw[h3]at h
    obtain rfl:0=o:=by simpa using h
    rw[e3]
    exact fo0 b n w
   |false=>
    rw[h3]at h
    cases hb:Nat.blt f 12 with
    |false=>rw[hb]at h;cases h
    |true=>
     rw[hb]at h
     obtain rfl:f+10=o:=by simpa using h
     exact fo2 f (fun e=>by subst e;cases h3) (Nat.le_of_ble_eq_true hb) b n w
theorem Aq(w:World):(Instr.alloc 3 true (.tuple #[])).run Tryz.prog w= .ok (.pointer (some ⟨w.heap.size,0,none⟩)) (w.alloc (.cells #[.int .i64 0] 3)):=by simp[go_sem]
theorem aaa(t:TypeId)(x:Value)(w:World):(Instr.buildSlice 131 1 #[(0,.iface t x)]).run Tryz.prog w= .ok (.slice (some ⟨w.heap.size,0,none⟩) 1 1) (w.alloc (.cells #[.iface t x] 20)):=by
 simp[go_sem]
theorem aab(t:TypeId)(x:Value)(t':TypeId)(x':Value)(w:World):(Instr.buildSlice 131 2 #[(0,.iface t x),(1,.iface t' x')]).run Tryz.prog w= .ok (.slice (some ⟨w.heap.size,0,none⟩) 2 2) (w.alloc (.cells #[.iface t x,.iface t' x'] 20)):=by
 simp[go_sem]
theorem ag{w:World}{b o:Nat}{c:Array Value}{t:TypeId}{f:Nat×Nat}{v:Value}(h:w.heap[b]? =some (.cells c t f))(hv:c[o]? =some v):w.cell? ⟨b,o,none⟩=some v:=by
 simp[World.cell?,h,hv]
theorem aV{w:World}{b o:Nat}{c:Array Value}{t:TypeId}(h:w.heap[b]? =some (.cells c t (0,0))):w.frozen? ⟨b,o,none⟩=false:=by
 simp[World.frozen?,h]
theorem aZ{w:World}{b o:Nat}{c:Array Value}{t:TypeId}{f:Nat×Nat}(v:Value)(h:w.heap[b]? =some (.cells c t f)):
 (w.setCell ⟨b,o,none⟩ v).heap[b]? =some (.cells (c.setIfInBounds o v) t f):=by
 simp only[World.setCell,Array.getElem?_modify,if_true,h]
 rfl
theorem cV{w:World}{b:Nat}{c:Array Value}{t:TypeId}{f:Nat×Nat}(h:w.heap[b]? =some (.cells c t f)):ij w b=some t:=by
 simp[ij,World.shape?,h]
structure Kept(A:Ad)(w w':World):Prop where
 below:Below A.w0.heap.size w w'
 e:∀n v,w.heap[A.e]? =some (.cells #[v] 63 (0,0))->∀xs,w.ownsRow A.base 70 3 v n xs->w'.heap[A.e]? =some (.cells #[v] 63 (0,0))∧w'.ownsRow A.base 70 3 v n xs
 s:w'.heap[A.s]? =w.heap[A.s]?
 buf:w'.heap[A.buf]? =w.heap[A.buf]?
 rd:w'.heap[A.rd]? =w.heap[A.rd]?
 sb:w'.heap[A.sb]? =w.heap[A.sb]?
 size:w.heap.size<=w'.heap.size
theorem fa.kept{A:Ad}{x:Raw}{w w':World}(h:fa A x w)(k:Kept A w w'):fa A x w':=by
 obtain⟨v,hv,bo⟩:=h.he
 exact⟨h.ok,h.below.trans k.below,by rw[k.s];exact h.hs,by rw[k.buf];exact h.hb,h.wH,by rw[k.rd];exact h.hr,
  fun j hj=>by rw[World.cell?_of_block (w:=w) (w':=w') (a:=⟨A.sb,j,none⟩) k.sb];exact h.wg j hj,
  ⟨v,k.e _ v hv _ bo⟩,Nat.le_trans h.gj k.size⟩
theorem LW{A:Ad}{x:Raw}{w:World}(h:fa A x w):A.s<w.heap.size:=by
 have:=h.ok.mP;have:=h.ok.fv;have:=h.ok.dy;have:=h.gj;omega
theorem qU{A:Ad}{x:Raw}{w:World}(h:fa A x w):A.buf<w.heap.size:=by
 have:=h.ok.dy;have:=h.gj;omega
theorem pK{w:World}{base n:Nat}{e:TypeId}{v:Value}{xs:List Value}(h:w.ownsRow base e 3 v n xs){k:Nat}(hk:v.ownBlock=some k):base<=k∧ij w k=some e:=by
 rcases h.2 with⟨rfl,_⟩|⟨g,cap,cur,rfl,hb,hh,_⟩
 ·simp[Value.ownBlock]at hk
 ·have:g=k:=by simpa[Value.ownBlock] using hk
  subst this
  exact⟨hb,cV hh⟩
theorem HQ{A:Ad}{x:Raw}{w:World}(h:fa A x w){b:Nat}{v:Value}(ht:¬(RY A).jo b (ij w b)):Kept A w (w.setCell ⟨b,0,none⟩ v):=by
 have ht':¬(b<A.w0.heap.size∨b=A.s∨b=A.buf∨b=A.rd∨b=A.e∨b=A.sb∨(A.base<=b∧ij w b=some 70)):=ht
 simp only[not_or]at ht'
 obtain⟨h0,h1,h2,h3,h4,h5,h6⟩:=ht'
 refine⟨(Below.refl _ _).setCell (Nat.le_of_not_lt h0) v,fun n u hu xs bo=>⟨?_,?_⟩,?_,?_,?_,?_,by simp⟩
 ·rw[Below.heap_setCell _ _ _ _ (fun e=>h4 e.symm)];exact hu
 ·exact ownsRow_setCell_other bo (fun hk=>h6 (pK bo hk)) v
 ·exact Below.heap_setCell _ _ _ _ (fun e=>h1 e.symm)
 ·exact Below.heap_setCell _ _ _ _ (fun e=>h2 e.symm)
 ·exact Below.heap_setCell _ _ _ _ (fun e=>h3 e.symm)
 ·exact Below.heap_setCell _ _ _ _ (fun e=>h5 e.symm)
theorem fW{w:World}{base n:Nat}{e:TypeId}{sz:Nat}{v:Value}{xs:List Value}(h:w.ownsRow base e sz v n xs)(o:Obj):(w.alloc o).ownsRow base e sz v n xs:=by
 obtain⟨h1,h2⟩:=h
 refine⟨h1,?_⟩
 rcases h2 with h2|⟨g,cap,cur,hv,hg,hh,r⟩
 ·exact .inl h2
 ·have bz:g<w.heap.size:=(Array.getElem?_eq_some_iff.1 hh).1
  exact .inr ⟨g,cap,cur,hv,hg,by rw[Below.heap_alloc _ _ _ bz];exact hh,r⟩
theorem qV{A:Ad}{x:Raw}{w:World}(h:fa A x w)(o:Obj):Kept A w (w.alloc o):=by
 have l1:=LW h
 have l2:=qU h
 have:=h.ok.mP;have:=h.ok.fv;have:=h.ok.dy;have:=h.gj;have:=h.ok.Eb;have:=h.ok.qT
 refine⟨(Below.refl _ _).alloc h.below.size o,fun n u hu xs bo=>⟨?_,fW bo o⟩,?_,?_,?_,?_,by simp⟩
 ·rw[Below.heap_alloc _ _ _ (by omega)];exact hu
 all_goals exact Below.heap_alloc _ _ _ (by omega)
theorem LX{A:Ad}{w:World}:Kept A w w.drew:=
 ⟨Below.drew (Below.refl _ _),fun _ _ hu _ bo=>⟨hu,bo⟩,rfl,rfl,rfl,rfl,Nat.le_refl _⟩
theorem mR{A:Ad}{x x':Raw}{w:World}(h:fa A x w){o:Nat}{v:Value}(hc:eV A x'=(eV A x).setIfInBounds o v)(hb:x'.buf=x.buf)(hm:x'.m=x.m)(hn:x'.ab=x.ab):
 fa A x' (w.setCell ⟨A.s,o,none⟩ v):=by
 have:=h.ok.mP;have:=h.ok.fv;have:=h.ok.dy;have:=h.gj;have:=h.ok.Eb;have:=h.ok.qT
 obtain⟨u,hu,bo⟩:=h.he
 refine⟨h.ok,h.below.setCell h.ok.UX v,?_,?_,by rw[hb];exact h.wH,?_,fun j hj=> ?_,⟨u,?_,?_⟩,by simpa using h.gj⟩
 ·rw[aZ v h.hs,hc]
 ·rw[Below.heap_setCell _ _ _ _ (by show A.buf≠A.s;omega),hb];exact h.hb
 ·rw[Below.heap_setCell _ _ _ _ (by show A.rd≠A.s;omega),hm];exact h.hr
 ·rw[World.cell?_setCell_other _ _ _ _ (fun e=>by injection e with e1;omega)];exact h.wg j hj
 ·rw[Below.heap_setCell _ _ _ _ (by show A.e≠A.s;omega)];exact hu
 ·rw[hn];exact ownsRow_setCell_below bo (by show A.s<A.base;omega) v
theorem qy{bs:U}{j:Nat}(hj:j<bs.size):(bM bs)[j]? =some (.int .u8 (bs.get! j).toNat):=by
 have JW:j<bs.data.size:=hj
 simp only[bM,Array.getElem?_map,Array.getElem?_eq_getElem JW,Option.map_some]
 show _=some (Value.int .u8 ((bs.data[j]!).toNat:Int))
 rw[getElem!_pos bs.data j JW]
theorem J2{A:Ad}{x:Raw}{w:World}{o:Nat}{sv:SV}(h:fa A x w)(hg:HP x o=some sv):∃v,w.cell? ⟨A.s,o,none⟩=some v∧∀bl,Rel (RY A) bl w sv v:=by
 have cF:∀v,(eV A x)[o]? =some v->w.cell? ⟨A.s,o,none⟩=some v:=fun v hv=>ag h.hs hv
 unfold HP at hg
 split at hg
 case h_2=>
  simp only[Option.some.injEq]at hg
  subst hg
  refine⟨_,cF _ rfl,fun bl=>⟨0,4096,by rw[h.wH];omega,by rw[h.wH];rfl,fun j hj=> ?_⟩⟩
  rw[Nat.zero_add]
  exact ag h.hb (qy hj)
 case h_3=>
  cases sd:x.io with
  |true=>
   simp only[sd,cond_true,Option.some.injEq]at hg
   subst hg
   exact⟨A.eof,cF _ (by simp[eV,sd]),fun bl=>rfl⟩
  |false=>
   simp only[sd,cond_false,Option.some.injEq]at hg
   subst hg
   exact⟨.nilIface,cF _ (by simp[eV,sd]),fun bl=>rfl⟩
 all_goals first|(cases hg;done)|(simp only[Option.some.injEq]at hg;subst hg;exact⟨_,cF _ rfl,fun bl=>rfl⟩)
theorem se{k:IntKind}{sv:SV}{n:Int}(h:fh k sv=some n):sv= .val (.int k n):=by
 unfold fh at h
 split at h
 ·rename_i k' n'
  by_cases hk:k=k'
  ·subst hk;simp at h;subst h;rfl
  ·simp[hk]at h
 ·cases h
theorem Ee{sv:SV}{s:U}(h:Ec sv=some s):sv= .val (.string s):=by
 unfold Ec at h
 split at h
 ·simp at h;subst h;rfl
 ·cases h
theorem xR{Y:Ev.Sys}{sv:SV}{b:Bool}{v:Value}(h:gk sv=some b)(hv:nw Y sv v):v= .bool b:=by
 unfold gk at h
 split at h
 ·simp at h;subst h;exact hv
 ·simp at h;subst h;exact hv
 ·simp at h;subst h;exact hv
 ·cases h
theorem Cm{A:Ad}{x x':Raw}{w:World}{o:Nat}{sv:SV}{v:Value}(h:fa A x w)(hs:xQ x o sv=some x')(hv:nw (RY A) sv v):
 (∃u,w.cell? ⟨A.s,o,none⟩=some u)∧w.frozen? ⟨A.s,o,none⟩=false∧v.cells=#[v]∧(∀l,v≠ .tuple l)∧(∀l,v≠ .agg l)∧fa A x' (w.setCell ⟨A.s,o,none⟩ v):=by
 have cF:∀v,(eV A x)[o]? =some v->w.cell? ⟨A.s,o,none⟩=some v:=fun v hv=>ag h.hs hv
 have hf:w.frozen? ⟨A.s,o,none⟩=false:=aV h.hs
 unfold xQ at hs
 split at hs
 all_goals first
  |(cases hs;done)
  |(obtain⟨n,hn,rfl⟩:=Option.map_eq_some_iff.1 hs
    have e:=se hn
    subst e
    obtain rfl:v=_:=hv
    exact⟨⟨_,cF _ rfl⟩,hf,rfl,by simp,by simp,mR h rfl rfl rfl rfl⟩)
  |(obtain⟨n,hn,rfl⟩:=Option.map_eq_some_iff.1 hs
    have e:=Ee hn
    subst e
    obtain rfl:v=_:=hv
    exact⟨⟨_,cF _ rfl⟩,hf,rfl,by simp,by simp,mR h rfl rfl rfl rfl⟩)
  |(obtain⟨n,hn,rfl⟩:=Option.map_eq_some_iff.1 hs
    have e:=xR hn hv
    subst e
    exact⟨⟨_,cF _ rfl⟩,hf,rfl,by simp,by simp,mR h rfl rfl rfl rfl⟩)
theorem sf{k:IntKind}{sv:SV}{n:Int}(h:fh k sv=some n)(hs:storable sv=false):False:=by
 rw[se h]at hs;cases hs
theorem Ef{sv:SV}{n:U}(h:Ec sv=some n)(hs:storable sv=false):False:=by
 rw[Ee h]at hs;cases hs
theorem um{sv:SV}{n:Bool}(h:gk sv=some n)(hs:storable sv=false):False:=by
 unfold gk at h
 split at h<;>first|(cases hs;done)|cases h
theorem J3{x x':Raw}{o:Nat}{sv:SV}(h:xQ x o sv=some x')(hs:storable sv=false):False:=by
 unfold xQ at h
 split at h
 all_goals first
  |(cases h;done)
  |(obtain⟨n,hn,_⟩:=Option.map_eq_some_iff.1 h
    first|exact sf hn hs|exact Ef hn hs|exact um hn hs)
theorem xS{x x':Raw}{o:Nat}{sv:SV}(h:xQ x o sv=some x'):x'.ab=x.ab:=by
 unfold xQ at h
 split at h
 all_goals first
  |(cases h;done)
  |(obtain⟨n,hn,rfl⟩:=Option.map_eq_some_iff.1 h;rfl)
theorem Co(A:Ad)(hA:A.Ok)(B:Nat)(hB:B=A.buf∨B=A.sb)(σ:Type)(get:σ->Nat->Option SV)(set:σ->Nat->SV->Option σ)(Inv:σ->World->Prop)(ab:σ->List e_)
 (qm:σ->Nat->SV->Option σ)(JR:σ->Nat->Nat->Nat->Option σ)(OO:σ->Nat->Prop)(OP:σ->Nat->Nat->Nat->Prop)
 (raw:∀{st w},Inv st w->∃x,fa A x w)
 (xt:∀{st w o sv},Inv st w->get st o=some sv->∃v,w.cell? ⟨A.s,o,none⟩=some v∧∀bl,Rel (mQ A B σ get set Inv ab qm JR OO OP) bl w sv v)
 (xw:∀{st aO w o sv v},Inv st w->set st o sv=some aO->nw (mQ A B σ get set Inv ab qm JR OO OP) sv v->
   (∃u,w.cell? ⟨A.s,o,none⟩=some u)∧w.frozen? ⟨A.s,o,none⟩=false∧v.cells=#[v]∧(∀l,v≠ .tuple l)∧(∀l,v≠ .agg l)∧Inv aO (w.setCell ⟨A.s,o,none⟩ v))
 (kg:∀{st aO o sv},set st o sv=some aO->storable sv=false->False)
 (LZ:∀{st aO o sv},set st o sv=some aO->ab aO=ab st)
 (kept:∀{st w w'},Inv st w->Kept A w w'->Inv st w')
 (rU:∀{st aO w i sv v},Inv st w->qm st i sv=some aO->OO st i->nw (mQ A B σ get set Inv ab qm JR OO OP) sv v->
   (∃u,w.cell? ⟨A.buf,i,none⟩=some u)∧w.frozen? ⟨A.buf,i,none⟩=false∧v.cells=#[v]∧(∀l,v≠ .tuple l)∧(∀l,v≠ .agg l)∧Inv aO (w.setCell ⟨A.buf,i,none⟩ v)∧A.buf≠B)
 (HR:∀{st aO i sv},qm st i sv=some aO->ab aO=ab st)
 (h_:∀{st aO i sv},qm st i sv=some aO->storable sv=false->False)
 (xz:∀{st aO w o so n},Inv st w->JR st o so n=some aO->OP st o so n->∃(cur:Array Value) (t:TypeId) (cs:List Value),w.heap[A.buf]? =some (.cells cur t (0,0))∧cs.length=n∧
   (∀j v,cs[j]? =some v->w.cell? ⟨A.buf,so+j,none⟩=some v)∧o+n<=cur.size∧(∀v∈cs,v.oneCell'=true)∧
   Inv aO (w.setRow A.buf (cur.toList.take o++(cs++cur.toList.drop (o+cs.length))).toArray)∧A.buf≠B)
 (L1:∀{st aO o so n},JR st o so n=some aO->ab aO=ab st):Laws (mQ A B σ get set Inv ab qm JR OO OP) where
 xt:=xt
 B7:=by
  intro st w g sv hI hg
  obtain⟨x,hx⟩:=raw hI
  cases hb:Nat.beq g 6 with
  |false=>simp only[mQ,hb]at hg;cases hg
  |true=>
   have e:=Nat.eq_of_beq_eq_true hb
   simp only[mQ,hb,cond_true,Option.some.injEq]at hg
   subst hg
   subst e
   refine⟨A.eof,?_,rfl⟩
   rw[hx.below.cell (by have:=hx.ok.jU.size;show 6<A.w0.heap.size;omega)]
   exact hx.ok.jU.eof
 wE:=by
  intro t ht i w
  have e:=Nat.eq_of_beq_eq_true ht
  subst e
  exact⟨ag7 _ w,ag8 _ w⟩
 xu:=by
  intro t ht i w
  have e:=Nat.eq_of_beq_eq_true ht
  subst e
  exact ag9 _ w
 wF:=by
  intro t ht w
  have e:=Nat.eq_of_beq_eq_true ht
  subst e
  exact⟨ag_ w,aha w⟩
 xv:=fun i=>⟨_,_,rfl⟩
 xw:=xw
 B8:=fun h hb=>by
  show zR<=(ab _).length
  rw[LZ h];exact hb
 kg:=kg
 ud:=fun{st w b v} hI ht=>by
  obtain⟨x,hx⟩:=raw hI
  exact kept hI (HQ hx ht)
 ue:=fun{st w} hI c t _=>by
  obtain⟨x,hx⟩:=raw hI
  exact kept hI (qV hx _)
 xx:=fun hI=>kept hI LX
 lt:=fun hI=>by
  obtain⟨x,hx⟩:=raw hI
  refine⟨LW hx,?_⟩
  have:=qU hx
  have:=hA.mP;have:=hA.fv;have:=hA.Eb;have:=hA.qT
  show B<_
  rcases hB with rfl|rfl<;>omega
 ne:=fun h=>by
  have:=hA.mP;have:=hA.fv;have:=hA.Eb;have:=hA.qT;have h':A.s=B:=h
  rcases hB with rfl|rfl<;>omega
 tS:=fun t=> .inr (.inl rfl)
 tB:=fun t=>by
  rcases hB with rfl|rfl
  ·exact .inr (.inr (.inl rfl))
  ·exact .inr (.inr (.inr (.inr (.inr (.inl rfl)))))
 rU:=fun hI hs hd hv=>by
  obtain⟨h1,h2,h3,h4,h5,h6,h7⟩:=rU hI hs hd hv
  exact⟨h1,h2,h3,h4,h5,h6,fun t=> .inr (.inr (.inl rfl)),h7⟩
 xy:=fun h hb=>by
  show zR<=(ab _).length
  rw[HR h];exact hb
 h_:=h_
 xz:=fun hI hs hc=>by
  obtain⟨cur,t,cs,h1,h2,h3,h4,h5,h6,h7⟩:=xz hI hs hc
  exact⟨cur,t,cs,h1,h2,h3,h4,h5,h6,fun t=> .inr (.inr (.inl rfl)),h7⟩
 B9:=fun h hb=>by
  show zR<=(ab _).length
  rw[L1 h];exact hb
 Hr:=fun{t} h e he=>by
  have e1:=Nat.eq_of_beq_eq_true h
  subst e1
  have:Tryz.prog.underlying 40=some (.slice 5):=by simp[go_sem]
  have DQ:Tryz.prog.underlying 40=some (.slice e):=he
  rw[this]at DQ
  injection DQ with DQ
  injection DQ with DQ
  subst DQ
  show(Tryz.prog.info? 5).map (·.size)=some 1
  kernel_rfl
 Z0:=fun{st w} hI=>by
  obtain⟨x,hx⟩:=raw hI
  have l1:=LW hx
  have l2:=qU hx
  have:=hx.ok.mP;have:=hx.ok.fv;have:=hx.ok.Eb;have:=hx.ok.qT;have:=hx.below.size
  rintro(h|h|h|h|h|h|⟨_,h⟩)
  ·omega
  ·omega
  ·omega
  ·omega
  ·omega
  ·omega
  ·simp at h
 Aq:=Aq
 adj:=rfl
 mixed:=by kernel_rfl
 xA:=xA
 qK:=qK
 DX:=DX
 mn:=fun{t} h=>by
  have e:=Nat.eq_of_beq_eq_true h
  subst e
  simp[mQ,go_sem]
 qu:=fun{t} h=>by
  have e:=Nat.eq_of_beq_eq_true h
  subst e
  exact⟨5,by simp[mQ,go_sem],by simp[mQ,go_sem],fun w=>by simp[mQ,go_sem]⟩
 O4:=Pq
 JS:=fun{t} h vs hv hl h0 w=>by
  have e:=Nat.eq_of_beq_eq_true h
  subst e
  match vs,hv,hl,h0 with
  |[v],hv,_,_=>
   obtain⟨t1,x1,rfl⟩:=hv v (List.mem_cons_self ..)
   exact⟨_,_,rfl,aaa t1 x1 w⟩
  |[v,u],hv,_,_=>
   obtain⟨t1,x1,rfl⟩:=hv v (List.mem_cons_self ..)
   obtain⟨t2,x2,rfl⟩:=hv u (by simp)
   exact⟨_,_,rfl,aab t1 x1 t2 x2 w⟩
  |_::_::_::_,_,hl,_=>simp at hl
theorem kT(A:Ad)(hA:A.Ok):Laws (RY A):=
 Co A hA A.buf (.inl rfl) Raw HP xQ (fa A) (·.ab) _ _ _ _ (fun h=>⟨_,h⟩) J2 Cm J3 xS fa.kept (fun _ h=>by cases h) (fun h=>by cases h) (fun h=>by cases h) (fun _ h=>by cases h) (fun h=>by cases h)
end
end Sc
end Go.Proofs.YtogkcphobhhbdaaGreatDoor
namespace Go.Proofs.YtogkcphobhhbdaaGreatDoor
open Go Go.RowKit Go.Lib
namespace Sc
set_option maxRecDepth 100000
noncomputable section
theorem Cp{w:World}(n m:Nat):Below w.heap.size w ((w.drewN n).drewN m):=by
 have h:Below w.heap.size w w:=Below.refl _ _
 exact⟨h.os,h.tape,h.output,h.size,h.block⟩
theorem Pr(w:World)(rd sb n cb:Nat)(adE:Value)(b o bl bc:Nat)(hE:w.cell? ⟨6,0,none⟩=some adE)
 (c0:w.cell? ⟨rd,0,none⟩=some (.slice (some ⟨sb,0,none⟩) n cb))(c1:w.cell? ⟨rd,1,none⟩=some (.int .i64 n)):
 Calls Tryz.prog 139 #[.pointer (some ⟨rd,0,none⟩),.slice (some ⟨b,o,none⟩) bl bc] w fun e w'=>e= .returned (.tuple #[.int .i64 0,adE])∧Below w.heap.size w w':=by
 have hn:decide ((n:Int)<=(n:Int))=true:=by simp
 go_enter Tryz.func139,Tryz.ntmps139
 go_wp2_with fail
 go_quiet (fail)
 go_wp2_with fail
 go_quiet (fail)
 go_wp2_with fail
 go_returns
 exact⟨rfl,Cp _ _⟩
theorem zS{P:Program}{ops:Array Oper}{o:Oper}{a:Act}{w:World}{K:Act->World->Prop}{Q:Exit->Act->World->Prop}{E:Prop}(DR:o.guard=none)(d s:Operand)(dT sT:TypeId)
 (ho:o.op= .call {callee:= .builtin .copy,args:=#[d,s],argTypes:=#[dT,sT]})(elem:TypeId)(hu:P.underlying dT=some (.slice elem))(eJ:(P.info? elem).map (·.size)=some 1)
 (g off aac adF:Nat)(ad:Addr)(aad adG:Nat)(hd:a.eval d= .slice (some ⟨g,off,none⟩) aac adF)(hs:a.eval s= .slice (some ad) aad adG)
 (cur:Array Value)(t:TypeId)(hg:w.heap[g]? =some (.cells cur t (0,0)))(cs:List Value)(hn:cs.length=Nat.min aad aac)
 (wg:∀j v,cs[j]? =some v->w.cell? (ad.add j)=some v)(Pd:off+cs.length<=cur.size)(h1:∀v∈cs,v.oneCell'=true)
 (h:K (a.put o.dst (goInt cs.length)) (w.setRow g (cur.toList.take off++(cs++cur.toList.drop (off+cs.length))).toArray)):
 if Region.wanted o (yielded ops a.tmps)=true then Oper.wp P o a w K Q else E:=by
 have hw:Region.wanted o (yielded ops a.tmps)=true:=by simp[Region.wanted,DR]
 rw[if_pos hw]
 have eg:=run_copy_row (P:=P) w dT sT o.type elem g off aac adF ad aad adG cur t cs hu eJ hg hn wg Pd h1
 unfold Oper.wp
 simp[execOp,ho,resolve,invoke,builtin,hd,hs,eg,Result.andThen]
 exact h
theorem Ps(w:World)(rd sb n cb b o bl bc:Nat)(O:List Value)(cur:Array Value)(t:TypeId)(hn0:0<n)(hn9:n<=2048)(hn:O.length=n)(zT:n<=bl)
 (c0:w.cell? ⟨rd,0,none⟩=some (.slice (some ⟨sb,0,none⟩) n cb))(c1:w.cell? ⟨rd,1,none⟩=some (.int .i64 0))(c2:w.cell? ⟨rd,2,none⟩=some (.int .i64 (-1)))
 (f1:w.frozen? ⟨rd,1,none⟩=false)(f2:w.frozen? ⟨rd,2,none⟩=false)(wg:∀j v,O[j]? =some v->w.cell? ⟨sb,j,none⟩=some v)(h1:∀v∈O,v.oneCell'=true)
 (hb:w.heap[b]? =some (.cells cur t (0,0)))(Pd:o+n<=cur.size)(dH:b≠rd)(Pt:sb≠rd):
 Calls Tryz.prog 139 #[.pointer (some ⟨rd,0,none⟩),.slice (some ⟨b,o,none⟩) bl bc] w fun e w'=>e= .returned (.tuple #[.int .i64 n,.nilIface])∧
  w'.heap=(((w.setCell ⟨rd,2,none⟩ (.int .i64 (-1))).setRow b (cur.toList.take o++(O++cur.toList.drop (o+O.length))).toArray).setCell ⟨rd,1,none⟩ (.int .i64 n)).heap∧w'.os=w.os∧w'.tape=w.tape∧w'.output=w.output:=by
 have hz:decide ((n:Int)<=0)=false:=by simp;omega
 have akx:¬n=0:=by omega
 have Eg:wrap64 (n:Int)=n:=by simp only[wrap64];omega
 have adH:=Lib.hid Eg
 clear Eg
 have hb3:(w.setCell ⟨rd,2,none⟩ (.int .i64 (-1))).heap[b]? =some (.cells cur t (0,0)):=by rw[Below.heap_setCell _ _ _ _ dH];exact hb
 have hs3:∀j v,O[j]? =some v->(w.setCell ⟨rd,2,none⟩ (.int .i64 (-1))).cell? ((⟨sb,0,none⟩:Addr).add j)=some v:=fun j v h=>by
  rw[Ev.add_zero,Nat.zero_add,World.cell?_setCell_other _ _ _ _ (fun e=>Pt (by injection e with e1;exact e1.symm))];exact wg j v h
 have hm:O.length=Nat.min n bl:=by rw[hn];exact(Nat.min_eq_left zT).symm
 have YY:o+O.length<=cur.size:=by rw[hn];exact Pd
 have Hb3:=Lib.hid hb3
 have Hs3:=Lib.hid hs3
 have Hb:=Lib.hid hb
 have Hm:=Lib.hid hm
 have Hf:=Lib.hid YY
 clear hb3 hs3 hb hm YY
 go_enter Tryz.func139,Tryz.ntmps139
 go_wp2_with fail
 go_quiet (fail)
 go_wp2_with fail
 go_region_law (refine zS rfl (.tmp 20) (.tmp 29) 40 40 rfl 5 (by simp[go_sem]) (by kernel_rfl) b o bl bc ⟨sb,0,none⟩ n cb (by simp[Act.eval,Act.put]) (by simp[Act.eval,Act.put]) cur t Hb3.out O Hm.out Hs3.out Hf.out h1 ?_)
 all_goals
  generalize hW:World.setRow _ b _=w4
  have qz:w4.heap=((w.setCell ⟨rd,2,none⟩ (.int .i64 (-1))).setRow b (cur.toList.take o++(O++cur.toList.drop (o+O.length))).toArray).heap:=by rw[←hW];simp[hn];rfl
  have d0:w4.os=w.os:=by rw[←hW];rfl
  have d2:w4.tape=w.tape:=by rw[←hW];rfl
  have d3:w4.output=w.output:=by rw[←hW];rfl
  have d1:w4.cell? ⟨rd,1,none⟩=some (.int .i64 0):=by
   rw[World.cell?_of_block (w:=(w.setCell ⟨rd,2,none⟩ (.int .i64 (-1)))) (w':=w4) (a:=⟨rd,1,none⟩) (by rw[qz];exact setRow_other _ _ _ _ (fun e=>dH e.symm)),World.cell?_setCell_other _ _ _ _ (by simp)]
   exact c1
  have d4:w4.frozen? ⟨rd,1,none⟩=false:=by
   rw[World.frozen?_of_block (w:=(w.setCell ⟨rd,2,none⟩ (.int .i64 (-1)))) (w':=w4) (a:=⟨rd,1,none⟩) (by rw[qz];exact setRow_other _ _ _ _ (fun e=>dH e.symm)),World.frozen?_setCell]
   exact f1
  clear hW
  have Hh:=Lib.hid qz
  have D0:=Lib.hid d0
  have D2:=Lib.hid d2
  have D3:=Lib.hid d3
  clear qz d0 d2 d3 c0 c1 c2 f1 f2
  go_wp2_with fail
  go_returns
  have hh:=Hh.out
  try rw[adH.out]
  refine⟨rfl,?_,D0.out,D2.out,D3.out⟩
  simp only[World.setCell,hh]
end
end Sc
end Go.Proofs.YtogkcphobhhbdaaGreatDoor
namespace Go.Proofs.YtogkcphobhhbdaaGreatDoor
open Go Go.RowKit
namespace Sc
open Ev
set_option maxRecDepth 100000
noncomputable section
theorem oV{P:Program}(w:World)(base:Nat)(t ty e:TypeId)(i:TypeInfo)(z:Value)(size bytes:Nat)(ht:P.underlying t=some (.slice e))(hi:P.info? e=some i)(hz:i.zero=some z)
 (gj:i.size=size)(DP:i.bytes=bytes)(hzs:z.cells.size=size)(eJ:0<size)(zM:0<bytes)
 (v:Value)(n:Nat)(xs:List Value)(bo:w.ownsRow base e size v n xs)
 (a:Addr)(m c:Nat)(news:List Value)(hl:news.length=m*size)(mS:∀j u,news[j]? =some u->w.cell? (a.add j)=some u)(h1:∀u∈news,u.oneCell'=true)
 (Cq:v.ownBlock≠some a.block)(J4:Room.holdsV w a (m*size)=true)(cN:base<=w.heap.size)(hm:m*bytes<=roomBytes):
 (∃v' w',(Builtin.append_ #[t,t] ty #[v,.slice (some a) m c]).run P w= .ok v' w'∧w'.ownsRow base e size v' (n+m) (xs++news)∧w.grownBy w' v.ownBlock∧(∀g,v.ownBlock=some g->ij w' g=some e))∨
 ((n+m)*bytes>roomBytes∧noRoomEvent∈((Builtin.append_ #[t,t] ty #[v,.slice (some a) m c]).runT P w #[]).2∧((Builtin.append_ #[t,t] ty #[v,.slice (some a) m c]).run P w).enabled):=by
 by_cases hB:(n+m)*bytes<=roomBytes
 ·left
  obtain⟨v',w',hr,h2,h3,h4⟩:=run_append_own (P:=P) w base t ty e i z size bytes ht hi hz gj DP hzs eJ v n xs bo a m c news hl mS h1
   (by have:n+m<=(n+m)*bytes:=Nat.le_mul_of_pos_right _ zM
       simp only[maxLen,roomBytes]at*;omega) (by simpa[roomBytes] using hB) cN
  refine⟨v',w',hr,h2,h3,fun g0 hg0=> ?_⟩
  subst gj
  subst DP
  rcases bo.2 with⟨rfl,rfl⟩|⟨g,cap,cur,rfl,hbg,hg,hnc,wi,L3,adI⟩
  ·simp[Value.ownBlock]at hg0
  ·obtain rfl:g=g0:=by simpa[Value.ownBlock] using hg0
   by_cases Pu:n+m<=cap
   ·obtain⟨w2,Pv,h22,h23⟩:=run_append_own_spare (P:=P) w base t ty e i i.size ht hi rfl g n cap xs bo a m c news hl mS h1 Pu
    have e1:=hr.symm.trans Pv
    injection e1 with e1 e2
    subst e1 e2
    rcases h2.2 with⟨e3,_⟩|⟨g3,ahd,ahe,e3,_,hh3,_⟩
    ·cases e3
    ·injection e3 with e3
     injection e3 with e3
     injection e3 with e3
     subst e3
     exact cV hh3
   ·by_cases hp:Builtin.nextslicecap (n+m) cap*i.bytes<=281474976710656
    ·have holds:∀j u,xs[j]? =some u->w.cell? ((⟨g,0,none⟩:Addr).add j)=some u:=bo.cells (g:=g) rfl
     have Pv:=run_append_grow (P:=P) w t ty e i z ht hi hz ⟨g,0,none⟩ n cap xs bo.1 holds a m c news hl mS (by omega)
      (by have:n+m<=(n+m)*i.bytes:=Nat.le_mul_of_pos_right _ zM
          simp only[roomBytes]at hB;omega) hp
     have e1:=hr.symm.trans Pv
     injection e1 with e1 e2
     have bz:g<w.heap.size:=(Array.getElem?_eq_some_iff.1 hg).1
     rw[e2]
     exact cV (c:=cur) (f:=(0,0)) (by rw[Below.heap_alloc _ _ _ (by simpa using bz)];exact hg)
    ·have aae:=runT_mayShare_own_cells (P:=P) w i.size n m g cap cur e hg hnc L3 a c (fun hh=>Cq (by simp[Value.ownBlock,hh])) J4
     have Pv:=runT_append_beyond (P:=P) w t ty e i ht hi (some ⟨g,0,none⟩) (some a) n cap m c (by omega) (by omega) aae
     rw[←Sem.runT_fst P _ w #[],Pv]at hr
     cases hr
 ·subst gj
  subst DP
  rcases bo.2 with⟨rfl,rfl⟩|⟨g,cap,cur,rfl,hbg,hg,hnc,wi,L3,adI⟩
  ·rw[Nat.zero_add]at hB;exact absurd hm hB
  ·by_cases Pu:n+m<=cap
   ·left
    obtain⟨w',hr,h2,h3⟩:=run_append_own_spare (P:=P) w base t ty e i i.size ht hi rfl g n cap xs bo a m c news hl mS h1 Pu
    refine⟨_,w',hr,h2,h3,fun g0 hg0=> ?_⟩
    obtain rfl:g=g0:=by simpa[Value.ownBlock] using hg0
    rcases h2.2 with⟨e3,_⟩|⟨g3,ahd,ahe,e3,_,hh3,_⟩
    ·cases e3
    ·injection e3 with e3
     injection e3 with e3
     injection e3 with e3
     subst e3
     exact cV hh3
   ·right
    refine⟨by omega,?_⟩
    by_cases hp:Builtin.nextslicecap (n+m) cap*i.bytes<=281474976710656
    ·have wm:(n+m)*i.bytes<=281474976710656:=Nat.le_trans (Nat.mul_le_mul_right _ (le_nextslicecap (by omega))) hp
     have h63:((n+m:Nat):Int)<=9223372036854775807:=by
      have:n+m<=(n+m)*i.bytes:=Nat.le_mul_of_pos_right _ zM
      omega
     have holds:∀j u,xs[j]? =some u->w.cell? ((⟨g,0,none⟩:Addr).add j)=some u:=bo.cells (g:=g) rfl
     have Pv:=run_append_grow (P:=P) w t ty e i z ht hi hz ⟨g,0,none⟩ n cap xs bo.1 holds a m c news hl mS (by omega) h63 hp
     have qo:grownCap w (n+m) cap e*i.bytes>roomBytes:=Nat.lt_of_lt_of_le (Nat.lt_of_not_le hB) (Nat.mul_le_mul_right _ (grownCap_ge w (n+m) cap e))
     refine⟨events_append_grow (P:=P) w t ty e i ht hi (some ⟨g,0,none⟩) (some a) n cap m c (by omega) h63 hp qo,?_⟩
     rw[Pv];exact Result.enabled_ok _ _
    ·have aae:=runT_mayShare_own_cells (P:=P) w i.size n m g cap cur e hg hnc L3 a c (fun hh=>Cq (by simp[Value.ownBlock,hh])) J4
     have hr:=runT_append_beyond (P:=P) w t ty e i ht hi (some ⟨g,0,none⟩) (some a) n cap m c (by omega) (by omega) aae
     refine⟨by rw[hr];simp,?_⟩
     rw[←Sem.runT_fst P _ w #[],hr]
     exact fun _=>⟨by simp,by simp,fun _=>by simp⟩
theorem si{P:Program}{w:World}{ops:Array Oper}{rest:List Oper}{o:Oper}{a:Act}{Q:Exit->Act->World->Prop}(DR:o.guard=none)(s x:Operand)(t:TypeId)
 (ho:o.op= .call {callee:= .builtin .append,args:=#[s,x],argTypes:=#[t,t]})
 (base:Nat)(e:TypeId)(i:TypeInfo)(z:Value)(size bytes:Nat)(ht:P.underlying t=some (.slice e))(hi:P.info? e=some i)(hz:i.zero=some z)
 (gj:i.size=size)(DP:i.bytes=bytes)(hzs:z.cells.size=size)(eJ:0<size)(zM:0<bytes)
 (v:Value)(n:Nat)(xs:List Value)(hs:a.eval s=v)(bo:w.ownsRow base e size v n xs)
 (ad:Addr)(m c:Nat)(news:List Value)(hx:a.eval x= .slice (some ad) m c)(hl:news.length=m*size)(mS:∀j u,news[j]? =some u->w.cell? (ad.add j)=some u)(h1:∀u∈news,u.oneCell'=true)
 (Cq:v.ownBlock≠some ad.block)(J4:Room.holdsV w ad (m*size)=true)(cN:base<=w.heap.size)(hm:m*bytes<=roomBytes)(qW:(n+m)*bytes>roomBytes->LetsOut Q)
 (h:∀v' w',w'.ownsRow base e size v' (n+m) (xs++news)->w.grownBy w' v.ownBlock->(∀g,v.ownBlock=some g->ij w' g=some e)->wpList P ops Q rest (a.put o.dst v') w'):wpList P ops Q (o::rest) a w:=by
 rcases oV (P:=P) w base t o.type e i z size bytes ht hi hz gj DP hzs eJ zM v n xs bo ad m c news hl mS h1 Cq J4 cN hm with⟨v',w',hr,h2,h3,h4⟩|⟨qo,Z2,hen⟩
 ·refine wpList_plain DR fun K hK=> ?_
  unfold Oper.wp execOp
  simp only[ho,resolve,invoke,builtin,Sem.run_bind,Sem.run_pure,Result.andThen_ok,List.map_toArray,List.map_cons,List.map_nil,hs,hx,hr]
  exact hK _ _ (h v' w' h2 h3 h4)
 ·exact wpList_room (B:=False) DR (qW qo) (fun _=>asks_append (P:=P) w s x t ho (by rw[hs,hx];exact Z2) (by rw[hs,hx];exact hen)) (fun hf=>hf.elim)
theorem vB{w:World}{base n:Nat}{e:TypeId}{sz:Nat}{v:Value}{xs:List Value}(h:w.ownsRow base e sz v n xs):v.ownBlock≠some w.heap.size:=by
 rcases h.2 with⟨rfl,_⟩|⟨g,cap,cur,rfl,hb,hh,_⟩
 ·simp[Value.ownBlock]
 ·have bz:g<w.heap.size:=(Array.getElem?_eq_some_iff.1 hh).1
  simp[Value.ownBlock];omega
structure Told(e:Nat)(v:Value)(w w':World):Prop where
 os:w'.os=w.os
 tape:w'.tape=w.tape
 output:w'.output=w.output
 size:w.heap.size<=w'.heap.size
 bm:∀k,k<w.heap.size->k≠e->some k≠v.ownBlock->w'.heap[k]? =w.heap[k]?
 ty':∀k,v.ownBlock=some k->ij w' k=some 70
theorem nH{w:World}{base n:Nat}{e:TypeId}{size:Nat}{v:Value}{xs:List Value}(h:w.ownsRow base e size v n xs):∃A c,v= .slice A n c:=by
 rcases h.2 with⟨rfl,rfl⟩|⟨g,cap,cur,rfl,_⟩
 ·exact⟨none,0,rfl⟩
 ·exact⟨_,cap,rfl⟩
theorem Tryz.U0:(Tryz.prog.info? 70).map (fun i=>(i.zero,i.size,i.bytes))=some (some (.agg #[.int .u64 0,.int .u64 0,.string ByteArray.empty]),3,32):=by kernel_rfl
theorem HS(g j:Nat):(⟨g,0,none⟩:Addr).add j=⟨g,j,none⟩:=by unfold Addr.add;split<;>simp_all
theorem L4(w:World)(e base n:Nat)(v:Value)(xs:List Value)(l c:Int)(m:U)(hv:w.heap[e]? =some (.cells #[v] 63 (0,0)))
 (bo:w.ownsRow base 70 3 v n xs)(he:e<base)(hb:base<=w.heap.size):
 Calls Tryz.prog 47 #[.int .u64 l,.int .u64 c,.string m,.pointer (some ⟨e,0,none⟩)] w fun en w'=>
  (en= .returned (.tuple #[])∧∃v',w'.heap[e]? =some (.cells #[v'] 63 (0,0))∧w'.ownsRow base 70 3 v' (n+1) (xs++[.int .u64 l,.int .u64 c,.string m])∧Told e v w w')∨
  (en= .outgrown∧(n+1)*32>roomBytes):=by
 obtain⟨i0,hi,Eh,L5,HU⟩:=info_parts Tryz.U0
 have cF:=cell_of_one hv
 have Pw:=free_of_one hv
 have bz:=lt_of_block hv
 go_enter Tryz.func47,Tryz.ntmps47
 go_wp2_with (at_builtin;refine si rfl (.tmp 7) (.tmp 12) 63 rfl base 70 i0 _ 3 32 Tryz.underlying63 hi Eh L5 HU rfl (by decide) (by decide) v n xs rfl (fW bo _) ⟨w.heap.size,0,none⟩ 1 1 [.int .u64 l,.int .u64 c,.string m] rfl rfl ?c2 ?c3 ?c4 ?c5 ?c6 ?c7 ?c8 ?c9)
 case c2=>
  intro j u hu
  rw[HS]
  rw[World.cell?_alloc_new]
  simpa using hu
 case c3=>simp[Value.oneCell']
 case c4=>exact vB bo
 case c5=>exact holdsV_alloc_new w _ _ 3 (by simp)
 case c6=>simp;omega
 case c7=>simp[roomBytes]
 case c8=>intro h;exact⟨{tmps:=#[],defers:=[]},w,.inr ⟨rfl,h⟩⟩
 case c9=>
  intro v' w' sj hg xT
  obtain⟨A',c',rfl⟩:=nH sj
  have dH:some e≠v.ownBlock:=by
   rcases bo.2 with⟨rfl,_⟩|⟨g,cap,cur,rfl,hbg,_⟩
   ·simp[Value.ownBlock]
   ·simp[Value.ownBlock];omega
  have L6:w'.heap[e]? =some (.cells #[v] 63 (0,0)):=by
   rw[hg.block e (by simp;omega) dH,Below.heap_alloc _ _ _ bz];exact hv
  have ahg:=cell_of_one L6
  have ahh:=free_of_one L6
  have H:=Lib.hid hv
  have H':=Lib.hid L6
  have Ho:=Lib.hid sj
  have Hg:=Lib.hid hg
  have Hty:=Lib.hid xT
  clear hv L6 sj hg xT
  go_wp2
  go_end0
  have L6:=H'.out
  have hg:=Hg.out
  refine .inl ⟨rfl,_,one_setCell L6,ownsRow_setCell_below Ho.out he _,⟨?_,?_,?_,?_,?_,?_⟩⟩
  ·exact hg.os
  ·exact hg.tape
  ·exact hg.output
  ·have:=hg.size;simp at this⊢;omega
  ·intro k hk Uz hkv
   rw[Below.heap_setCell _ _ _ _ Uz,hg.block k (by simp;omega) hkv,Below.heap_alloc _ _ _ hk]
  ·intro k hk
   rw[eU]
   exact Hty.out k hk
theorem Px{w:World}{base n:Nat}{e:TypeId}{sz:Nat}{v:Value}{xs:List Value}(h:w.ownsRow base e sz v n xs){k:Nat}(hk:k<base):some k≠v.ownBlock:=by
 rcases h.2 with⟨rfl,_⟩|⟨g,cap,cur,rfl,hb,hh,_⟩
 ·simp[Value.ownBlock]
 ·simp[Value.ownBlock];omega
theorem U1{A:Ad}{x:Raw}{w w':World}(h:fa A x w){v:Value}{n:Nat}{xs:List Value}{v':Value}{n':Nat}{xs':List Value}(hv:w.heap[A.e]? =some (.cells #[v] 63 (0,0)))
 (bo:w.ownsRow A.base 70 3 v n xs)(L6:w'.heap[A.e]? =some (.cells #[v'] 63 (0,0)))(sj:w'.ownsRow A.base 70 3 v' n' xs')
 (ht:Told A.e v w w')(xT:∀g,v.ownBlock=some g->ij w' g=some 70)(bl:List Nat):Fr (RY A) bl w w':=by
 refine⟨ht.os,ht.tape,ht.output,ht.size,fun k hk=> ?_,fun k hk htc hb=> ?_⟩
 ·by_cases h1:k=A.e
  ·subst h1;rw[cV hv,cV L6]
  ·by_cases h2:v.ownBlock=some k
   ·rw[xT k h2,(pK bo h2).2]
   ·unfold ij World.shape?
    rw[ht.bm k hk h1 (fun e=>h2 e.symm)]
 ·have Py:¬(k<A.w0.heap.size∨k=A.s∨k=A.buf∨k=A.rd∨k=A.e∨k=A.sb∨(A.base<=k∧ij w k=some 70)):=htc
  simp only[not_or]at Py
  obtain⟨h0,h1,h2,h3,h4,h5,h6⟩:=Py
  exact ht.bm k hk h4 (fun e=>h6 (pK bo e.symm))
def pL(x:Raw)(n:e_):Raw:={x with ab:=x.ab++[n]}
theorem Pz{A:Ad}{x:Raw}{w w':World}(h:fa A x w){v v':Value}{l c:Int}{m:U}(hv:w.heap[A.e]? =some (.cells #[v] 63 (0,0)))
 (bo:w.ownsRow A.base 70 3 v x.ab.length (cZ x.ab))(L6:w'.heap[A.e]? =some (.cells #[v'] 63 (0,0)))
 (sj:w'.ownsRow A.base 70 3 v' (x.ab.length+1) (cZ x.ab++[.int .u64 l,.int .u64 c,.string m]))(ht:Told A.e v w w'):fa A (pL x ⟨l,c,m⟩) w':=by
 have h1:=h.ok.mP;have h2:=h.ok.fv;have h3:=h.ok.dy;have h4:=h.gj;have h5:=h.ok.Eb;have h6:=h.ok.qT;have h7:=h.below.size
 have g:=fun k (hk:k<A.base) (dH:k≠A.e)=>ht.bm k (by omega) dH (Px bo hk)
 refine⟨h.ok,h.below.trans ⟨ht.os,ht.tape,ht.output,ht.size,fun k hk=>g k (by have:=h.ok.J0;omega) (by have:=h.ok.ag5;omega)⟩,?_,?_,h.wH,?_,fun j hj=> ?_,⟨v',L6,?_⟩,Nat.le_trans h4 ht.size⟩
 ·rw[g A.s (by omega) (by omega)];exact h.hs
 ·rw[g A.buf (by omega) (by omega)];exact h.hb
 ·rw[g A.rd (by omega) (by omega)];exact h.hr
 ·rw[World.cell?_of_block (w:=w) (w':=w') (a:=⟨A.sb,j,none⟩) (g A.sb (by omega) (by omega))];exact h.wg j hj
 ·show w'.ownsRow A.base 70 3 v' (x.ab++[e_.mk l c m]).length (cZ (x.ab++[e_.mk l c m]))
  rw[uk,List.length_append]
  exact sj
def AB(A:Ad)(args:List SV)(c:aq (RY A)):af (SV×aq (RY A)):=
 match args with
 |[.val (.int .u64 l),.val (.int .u64 k),.val (.string m)]=> .ae (.val (.tuple #[]),⟨pL c.st ⟨l,k,m⟩,c.bx⟩)
 |_=> .fail
theorem U2{A:Ad}{bl:List Nat}{c:aq (RY A)}{w w':World}(h:fu (RY A) bl c w){x':Raw}(hx:fa A x' w')(hf:Fr (RY A) bl w w')(zT:∀b∈bl,w'.heap[b]? =w.heap[b]?):fu (RY A) bl ⟨x',c.bx⟩ w':=by
 refine⟨hx,h.len,h.nd,fun i b u hb hu=> ?_,fun b hb=> ?_⟩
 ·have hm:=List.mem_of_getElem? hb
  rw[World.cell?_of_block (w:=w) (w':=w') (a:=⟨b,0,none⟩) (zT b hm),World.frozen?_of_block (w:=w) (w':=w') (a:=⟨b,0,none⟩) (zT b hm)]
  exact h.cell i b u hb hu
 ·have:=h.free b hb
  rw[hf.ty b this.2]
  exact⟨this.1,Nat.lt_of_lt_of_le this.2 hf.size⟩
theorem U3(A:Ad)(hA:A.Ok):fg (RY A) 47 #[.pointer (some ⟨A.e,0,none⟩)] false (AB A):=by
 intro args c bl w bS Q cK hc hs
 unfold AB at hs
 split at hs
 ·rename_i l k m
  cases cK with
  |cons h1 t=>
  cases t with
  |cons h2 t=>
  cases t with
  |cons h3 t=>
  cases t
  have e1:_=Value.int .u64 l:=h1
  have e2:_=Value.int .u64 k:=h2
  have e3:_=Value.string m:=h3
  subst e1 e2 e3
  have hx:fa A c.st w:=hc.inv
  obtain⟨v,hv,bo⟩:=hx.he
  refine(L4 w A.e A.base c.st.ab.length v (cZ c.st.ab) l k m hv bo (by have:=hA.Eb;have:=hA.mP;have:=hA.fv;have:=hA.dy;omega) hx.gj).mono ?_
  rintro e w' (⟨rfl,v',L6,sj,ht⟩|⟨rfl,qo⟩)
  ·left
   have xT:∀g,v.ownBlock=some g->ij w' g=some 70:=fun g hg=>ht.ty' g hg
   have qn:=U1 hx hv bo L6 sj ht xT bl
   have hinv:=Pz hx hv bo L6 sj ht
   have zT:∀b∈bl,w'.heap[b]? =w.heap[b]? :=fun b hb=>by
    have Pw:=hc.free b hb
    have Py:¬(b<A.w0.heap.size∨b=A.s∨b=A.buf∨b=A.rd∨b=A.e∨b=A.sb∨(A.base<=b∧ij w b=some 70)):=Pw.1
    simp only[not_or]at Py
    obtain⟨h0,h1,h2,h3,h4,h5,h6⟩:=Py
    exact ht.bm b Pw.2 h4 (fun e=>h6 (pK bo e.symm))
   refine⟨_,_,_,bl,hs,rfl,rfl,U2 hc hinv qn zT,qn.ext,fun _ o=> ?_⟩
   refine World.cell?_of_block (w:=w) (w':=w') (a:=⟨A.buf,o,none⟩) (ht.bm A.buf (qU hx) ?_ (Px bo hA.dy))
   have:=hA.Eb;have:=hA.mP;have:=hA.fv;show A.buf≠A.e;omega
  ·right
   refine⟨rfl,_,hs,?_⟩
   show zR<=(c.st.ab++[e_.mk l k m]).length
   simp only[List.length_append,List.length_cons,List.length_nil,zR,roomBytes]at*
   omega
 ·exact hs.elim
theorem L7(A:Ad):gT (AB A):=by
 intro args c Q hb hs
 unfold AB at hs
 split at hs
 ·refine⟨_,hs,?_⟩
  show zR<=(c.st.ab++[_]).length
  have:zR<=c.st.ab.length:=hb
  simp only[List.length_append];omega
 ·exact hs.elim
end
end Sc
end Go.Proofs.YtogkcphobhhbdaaGreatDoor
namespace Go.Proofs.YtogkcphobhhbdaaGreatDoor
open Go Go.RowKit Go.Lib
namespace Sc
open Ev
set_option maxRecDepth 100000
noncomputable section
theorem iH{w w':World}(hB:Below w.heap.size w w'){base n:Nat}{e:TypeId}{sz:Nat}{v:Value}{xs:List Value}(h:w.ownsRow base e sz v n xs):w'.ownsRow base e sz v n xs:=by
 obtain⟨h1,h2⟩:=h
 refine⟨h1,?_⟩
 rcases h2 with h2|⟨g,cap,cur,hv,hg,hh,r⟩
 ·exact .inl h2
 ·have bz:g<w.heap.size:=(Array.getElem?_eq_some_iff.1 hh).1
  exact .inr ⟨g,cap,cur,hv,hg,by rw[hB.block g bz];exact hh,r⟩
theorem kU{A:Ad}{x:Raw}{w w':World}(h:fa A x w)(hB:Below w.heap.size w w'):Kept A w w':=by
 have l1:=LW h
 have l2:=qU h
 have:=h.ok.mP;have:=h.ok.fv;have:=h.ok.dy;have:=h.gj;have:=h.ok.Eb;have:=h.ok.qT
 have g:=fun k (hk:k<w.heap.size)=>hB.block k hk
 refine⟨⟨hB.os,hB.tape,hB.output,hB.size,fun k hk=>g k (Nat.lt_of_lt_of_le hk h.below.size)⟩,fun n u hu xs bo=>⟨?_,iH hB bo⟩,g _ (by omega),g _ (by omega),g _ (by omega),g _ (by omega),hB.size⟩
 rw[g A.e (by omega)];exact hu
theorem kV{Y:Ev.Sys}{w w':World}(hB:Below w.heap.size w w')(bl:List Nat):Ev.Fr Y bl w w':=
 ⟨hB.os,hB.tape,hB.output,hB.size,fun k hk=>by unfold Ev.ij World.shape?;rw[hB.block k hk],fun k hk _ _=>hB.block k hk⟩
theorem kW{Y:Ev.Sys}{bl:List Nat}{c:aq Y}{w w':World}(h:fu Y bl c w)(hi:Y.Inv c.st w')(hB:Below w.heap.size w w'):fu Y bl c w':=by
 refine⟨hi,h.len,h.nd,fun i b u hb hu=> ?_,fun b hb=> ?_⟩
 ·have bz:=(h.free b (List.mem_of_getElem? hb)).2
  have e1:w'.cell? ⟨b,0,none⟩=w.cell? ⟨b,0,none⟩:=by simp[World.cell?,hB.block b bz]
  have e2:w'.frozen? ⟨b,0,none⟩=w.frozen? ⟨b,0,none⟩:=by simp[World.frozen?,hB.block b bz]
  rw[e1,e2]
  exact h.cell i b u hb hu
 ·have bz:=(h.free b hb).2
  have e:ij w' b=ij w b:=by unfold Ev.ij World.shape?;rw[hB.block b bz]
  rw[e]
  exact⟨(h.free b hb).1,Nat.lt_of_lt_of_le bz hB.size⟩
theorem zU(bs:U)(i:Nat)(b:UInt8):bM (bs.set! i b)=(bM bs).setIfInBounds i (.int .u8 (b.toNat:Int)):=by
 simp[bM,ByteArray.set!,Array.set!_eq_setIfInBounds]
theorem Ei{A:Ad}{x:Raw}{w w':World}{bs:U}(h:fa A x w)(hs:bs.size=4096)(hb:w'.heap[A.buf]? =some (.cells (bM bs) 5 (0,0)))(ho:∀k,k≠A.buf->w'.heap[k]? =w.heap[k]?)
 (Uy:w'.os=w.os)(ht:w'.tape=w.tape)(qW:w'.output=w.output)(eJ:w'.heap.size=w.heap.size):fa A {x with buf:=bs} w':=by
 have:=h.ok.mP;have:=h.ok.fv;have:=h.ok.dy;have:=h.gj;have:=h.ok.Eb;have:=h.ok.qT;have:=h.ok.Po
 obtain⟨u,hu,bo⟩:=h.he
 refine⟨h.ok,h.below.trans ⟨Uy,ht,qW,Nat.le_of_eq eJ.symm,fun k hk=>ho k (by omega)⟩,?_,hb,hs,?_,fun j hj=> ?_,⟨u,?_,?_⟩,by rw[eJ];exact h.gj⟩
 ·rw[ho _ (by omega)];exact h.hs
 ·rw[ho _ (by omega)];exact h.hr
 ·rw[World.cell?_of_block (w:=w) (w':=w') (a:=⟨A.sb,j,none⟩) (ho A.sb (by omega))];exact h.wg j hj
 ·rw[ho _ (by omega)];exact hu
 ·obtain⟨h1,h2⟩:=bo
  refine⟨h1,?_⟩
  rcases h2 with h2|⟨g,cap,cur,hv,hg,hh,r⟩
  ·exact .inl h2
  ·exact .inr ⟨g,cap,cur,hv,hg,by rw[ho g (by omega)];exact hh,r⟩
theorem bytesOf(bs:U):(bM bs).toList=bs.data.toList.map fun b=> .int .u8 (b.toNat:Int):=by simp[bM]
theorem sl(l:List UInt8):bM ⟨l.toArray⟩=(l.map fun b=>Value.int .u8 (b.toNat:Int)).toArray:=by simp[bM]
theorem Cr(l:List UInt8):(⟨l.toArray⟩:U).size=l.length:=rfl
theorem bu(bs:U):bs.data.toList.length=bs.size:=by rw[Array.length_toList];rfl
theorem U4{A:Ad}{x:Raw}{w:World}{o:Nat}{sv:SV}(h:fa A x w)(hg:UZ A x o=some sv):∃v,w.cell? ⟨A.s,o,none⟩=some v∧∀bl,Rel (FY A) bl w sv v:=by
 have cF:∀v,(eV A x)[o]? =some v->w.cell? ⟨A.s,o,none⟩=some v:=fun v hv=>ag h.hs hv
 unfold UZ at hg
 split at hg
 ·simp only[Option.some.injEq]at hg;subst hg;exact⟨_,cF _ rfl,fun bl=>rfl⟩
 ·simp only[Option.some.injEq]at hg;subst hg;exact⟨_,cF _ rfl,fun bl=>rfl⟩
 ·rename_i h0 h2
  unfold HP at hg
  split at hg
  case h_2=>exact absurd rfl h2
  case h_3=>
   cases sd:x.io with
   |true=>
    simp only[sd,cond_true,Option.some.injEq]at hg
    subst hg
    exact⟨A.eof,cF _ (by simp[eV,sd]),fun bl=>rfl⟩
   |false=>
    simp only[sd,cond_false,Option.some.injEq]at hg
    subst hg
    exact⟨.nilIface,cF _ (by simp[eV,sd]),fun bl=>rfl⟩
  all_goals first|(cases hg;done)|(simp only[Option.some.injEq]at hg;subst hg;exact⟨_,cF _ rfl,fun bl=>rfl⟩)
theorem U5{A:Ad}{sv:SV}{v:Value}(h:nw (FY A) sv v):nw (RY A) sv v:=by
 cases sv<;>exact h
theorem U6{A:Ad}{x x':Raw}{w:World}{o:Nat}{sv:SV}{v:Value}(h:fa A x w)(hs:Ed x o sv=some x')(hv:nw (FY A) sv v):
 (∃u,w.cell? ⟨A.s,o,none⟩=some u)∧w.frozen? ⟨A.s,o,none⟩=false∧v.cells=#[v]∧(∀l,v≠ .tuple l)∧(∀l,v≠ .agg l)∧fa A x' (w.setCell ⟨A.s,o,none⟩ v):=by
 have cF:∀v,(eV A x)[o]? =some v->w.cell? ⟨A.s,o,none⟩=some v:=fun v hv=>ag h.hs hv
 have hf:w.frozen? ⟨A.s,o,none⟩=false:=aV h.hs
 unfold Ed at hs
 split at hs
 ·simp only[Option.some.injEq]at hs
  subst hs
  obtain rfl:v=A.eof:=hv
  refine⟨⟨_,cF _ rfl⟩,hf,rfl,by simp[Ad.eof],by simp[Ad.eof],mR h ?_ rfl rfl rfl⟩
  simp[eV]
 ·simp only[Option.some.injEq]at hs
  subst hs
  obtain rfl:v= .nilIface:=hv
  refine⟨⟨_,cF _ rfl⟩,hf,rfl,by simp,by simp,mR h ?_ rfl rfl rfl⟩
  simp[eV]
 ·obtain⟨n,hn,rfl⟩:=Option.map_eq_some_iff.1 hs
  have e:=se hn
  subst e
  obtain rfl:v=_:=hv
  exact⟨⟨_,cF _ rfl⟩,hf,rfl,by simp,by simp,mR h rfl rfl rfl rfl⟩
 ·exact Cm h hs (U5 hv)
theorem U7{x x':Raw}{o:Nat}{sv:SV}(h:Ed x o sv=some x')(hs:storable sv=false):False:=by
 unfold Ed at h
 split at h
 ·cases hs
 ·cases hs
 ·obtain⟨n,hn,_⟩:=Option.map_eq_some_iff.1 h
  exact sf hn hs
 ·exact J3 h hs
theorem HV{x x':Raw}{o:Nat}{sv:SV}(h:Ed x o sv=some x'):x'.ab=x.ab:=by
 unfold Ed at h
 split at h
 ·cases h;rfl
 ·cases h;rfl
 ·obtain⟨n,hn,rfl⟩:=Option.map_eq_some_iff.1 h;rfl
 ·exact xS h
theorem PB{A:Ad}{x x':Raw}{w:World}{i:Nat}{sv:SV}{v:Value}(h:fa A x w)(hs:vA x i sv=some x')(hi:i<4096)(hv:nw (FY A) sv v):
 (∃u,w.cell? ⟨A.buf,i,none⟩=some u)∧w.frozen? ⟨A.buf,i,none⟩=false∧v.cells=#[v]∧(∀l,v≠ .tuple l)∧(∀l,v≠ .agg l)∧fa A x' (w.setCell ⟨A.buf,i,none⟩ v)∧A.buf≠A.sb:=by
 have h1:=h.ok.mP;have h2:=h.ok.fv;have h3:=h.ok.Eb;have h4:=h.ok.qT
 unfold vA at hs
 split at hs
 ·simp only[Option.some.injEq]at hs
  subst hs
  obtain rfl:v= .int .u8 128:=hv
  refine⟨⟨_,ag h.hb (qy (by rw[h.wH];exact hi))⟩,aV h.hb,rfl,by simp,by simp,?_,by omega⟩
  refine Ei h ?_ ?_ (fun k hk=>Below.heap_setCell _ _ _ _ hk) rfl rfl rfl (by simp)
  ·show(x.buf.data.set! i 128).size=_;rw[Array.set!_eq_setIfInBounds,Array.size_setIfInBounds];exact h.wH
  ·rw[aZ _ h.hb,zU];rfl
 ·cases hs
theorem Ej{x x':Raw}{i:Nat}{sv:SV}(h:vA x i sv=some x'):x'.ab=x.ab:=by
 unfold vA at h
 split at h
 ·cases h;rfl
 ·cases h
theorem PC{x x':Raw}{i:Nat}{sv:SV}(h:vA x i sv=some x')(hs:storable sv=false):False:=by
 unfold vA at h
 split at h
 ·cases hs
 ·cases h
theorem U8{A:Ad}{x x':Raw}{w:World}{o so n:Nat}(h:fa A x w)(hs:LV x o so n=some x')(hc:o+n<=4096∧so+n<=4096):
 ∃(cur:Array Value) (t:TypeId) (cs:List Value),w.heap[A.buf]? =some (.cells cur t (0,0))∧cs.length=n∧
  (∀j v,cs[j]? =some v->w.cell? ⟨A.buf,so+j,none⟩=some v)∧o+n<=cur.size∧(∀v∈cs,v.oneCell'=true)∧
  fa A x' (w.setRow A.buf (cur.toList.take o++(cs++cur.toList.drop (o+cs.length))).toArray)∧A.buf≠A.sb:=by
 have h1:=h.ok.mP;have h2:=h.ok.fv;have h3:=h.ok.Eb;have h4:=h.ok.qT
 have hl:x.buf.data.toList.length=4096:=by rw[bu];exact h.wH
 have hlen:(((bM x.buf).toList.drop so).take n).length=n:=by
  rw[bytesOf];simp;have:x.buf.size=4096:=h.wH;omega
 simp only[LV,Option.some.injEq]at hs
 subst hs
 refine⟨bM x.buf,5,((bM x.buf).toList.drop so).take n,h.hb,hlen,fun j v hv=> ?_,?_,fun v hv=> ?_,?_,by omega⟩
 ·refine ag h.hb ?_
  rw[List.getElem?_take]at hv
  split at hv
  ·rw[List.getElem?_drop,Array.getElem?_toList]at hv;exact hv
  ·cases hv
 ·have:(bM x.buf).size=4096:=by simp[bM];exact h.wH
  omega
 ·have:=List.mem_of_mem_drop (List.mem_of_mem_take hv)
  rw[bytesOf]at this
  obtain⟨b,_,rfl⟩:=List.mem_map.1 this
  rfl
 ·have zT:(wk x.buf o so n).size=4096:=by
   unfold wk
   rw[Cr]
   simp
   have:x.buf.size=4096:=h.wH
   omega
  refine Ei h zT ?_ (fun k hk=>setRow_other _ _ _ _ hk) rfl rfl rfl (size_setRow _ _ _)
  rw[setRow_heap w A.buf _ _ _ _ h.hb,hlen]
  unfold wk
  rw[bytesOf,sl]
  simp[List.map_take,List.map_drop]
theorem HW{x x':Raw}{o so n:Nat}(h:LV x o so n=some x'):x'.ab=x.ab:=by
 simp only[LV,Option.some.injEq]at h
 subst h;rfl
theorem PD(A:Ad)(hA:A.Ok):Laws (FY A):=
 Co A hA A.sb (.inr rfl) Raw (UZ A) Ed (fa A) (·.ab) vA LV _ _ (fun h=>⟨_,h⟩) U4 U6 U7 HV fa.kept PB Ej PC U8 HW
def lay(bs:U)(o:Nat)(O:U):U:=⟨(bs.data.toList.take o++(O.data.toList++bs.data.toList.drop (o+O.size))).toArray⟩
def xU(A:Ad)(args:List SV)(c:aq (FY A)):af (SV×aq (FY A)):=
 match args with
 |[.val v,.ds o n _]=> .aY (v= .pointer (some ⟨A.rd,0,none⟩)) (.aj (Nat.beq c.st.m A.O.size)
  (.ae (.two (.val (.int .i64 0)) (.obj 0),c))
  (.aY (c.st.m=0∧A.O.size<=n∧o+A.O.size<=4096) (.ae (.two (.val (.int .i64 A.O.size)) (.val .nilIface),⟨{c.st with m:=A.O.size,buf:=lay c.st.buf o A.O},c.bx⟩))))
 |_=> .fail
theorem L8(A:Ad):gT (Y:=FY A) (xU A):=by
 intro args c Q hb h
 unfold xU at h
 split at h
 ·obtain⟨_,h⟩:=h
  cases hm:Nat.beq c.st.m A.O.size with
  |true=>exact⟨_,h.1 hm,hb⟩
  |false=>exact⟨_,(h.2 hm).2,hb⟩
 ·exact h.elim
theorem Ek{bs O:U}{o:Nat}(h:o+O.size<=bs.size):(lay bs o O).size=bs.size:=by
 unfold lay
 rw[Cr]
 simp
 omega
theorem U9(A:Ad)(hA:A.Ok):fg (FY A) 139 #[] false (xU A):=by
 intro args c bl w bS Q cK hc h
 unfold xU at h
 split at h
 ·rename_i v o n cap
  obtain⟨hv,h⟩:=h
  cases cK with
  |cons h1 hr=>
   cases hr with
   |cons h2 Pv=>
    cases Pv
    have hI:fa A c.st w:=hc.inv
    subst hv
    rw[show _=_ from h1,show _=_ from h2]
    have ahi:w.cell? ⟨6,0,none⟩=some A.eof:=by
     rw[hI.below.cell (by have:=hI.ok.jU.size;show 6<A.w0.heap.size;omega)]
     exact hI.ok.jU.eof
    cases hm:Nat.beq c.st.m A.O.size with
    |true=>
     have hq:=h.1 hm
     have YZ:=Nat.eq_of_beq_eq_true hm
     refine(Pr w A.rd A.sb A.O.size A.cb A.eof A.buf o n cap ahi (ag hI.hr rfl) (by rw[←YZ];exact ag hI.hr rfl)).mono ?_
     rintro e w' ⟨rfl,hB⟩
     refine .inl ⟨_,c,_,bl,hq,rfl,⟨_,_,rfl,rfl,rfl⟩,kW hc (hI.kept (kU hI hB)) hB,(kV hB bl).ext,fun _ m=> ?_⟩
     have bz:=((PD A hA).lt hc.inv).2
     simp only[World.cell?,hB.block _ bz]
    |false=>
     obtain⟨⟨UA,hn,ho⟩,hq⟩:=h.2 hm
     have dH:c.st.m≠A.O.size:=fun e=>by rw[e]at hm;simp at hm
     have hlen:(A.O.data.toList.map fun b=>Value.int .u8 (b.toNat:Int)).length=A.O.size:=by simp
     have k1:=hI.ok.mP;have k2:=hI.ok.fv;have k3:=hI.ok.Eb;have k4:=hI.ok.qT
     have wH:(bM c.st.buf).size=4096:=by simp[bM];exact hI.wH
     refine(Ps w A.rd A.sb A.O.size A.cb A.buf o n cap (A.O.data.toList.map fun b=> .int .u8 (b.toNat:Int)) (bM c.st.buf) 5 (by omega) hI.ok.n1 hlen hn
      (ag hI.hr rfl) (by have:=ag (o:=1) (v:= .int .i64 c.st.m) hI.hr rfl;rw[UA]at this;exact this) (ag hI.hr rfl) (aV hI.hr) (aV hI.hr)
      (fun j v hv=> ?_) (fun v hv=> ?_) hI.hb (by rw[wH];exact ho) (by omega) (by omega)).mono ?_
     ·rw[List.getElem?_map]at hv
      obtain⟨b,hb,rfl⟩:=Option.map_eq_some_iff.1 hv
      have hj:j<A.O.size:=by
       have:=(List.getElem?_eq_some_iff.1 hb).1
       rw[bu]at this;exact this
      rw[hI.wg j hj]
      have:A.O.get! j=b:=by
       rw[Array.getElem?_toList]at hb
       show A.O.data[j]! =b
       have JW:j<A.O.data.size:=hj
       rw[getElem!_pos A.O.data j JW]
       rw[Array.getElem?_eq_getElem JW]at hb
       exact Option.some.inj hb
      rw[this]
     ·obtain⟨b,_,rfl⟩:=List.mem_map.1 hv
      rfl
     ·rintro e w' ⟨rfl,qz,Uy,Y0,qW⟩
      rw[hlen]at qz
      have ahj:w.heap[A.rd]? =some (.cells #[.slice (some ⟨A.sb,0,none⟩) A.O.size A.cb,.int .i64 c.st.m,.int .i64 (-1)] 100 (0,0)):=hI.hr
      have Cs:(w.setCell ⟨A.rd,2,none⟩ (.int .i64 (-1))).heap[A.buf]? =some (.cells (bM c.st.buf) 5 (0,0)):=by
       rw[Below.heap_setCell _ _ _ _ (by show A.buf≠A.rd;omega)];exact hI.hb
      have other:∀k,k≠A.buf->k≠A.rd->w'.heap[k]? =w.heap[k]? :=fun k h1 h2=>by
       rw[qz,Below.heap_setCell _ _ _ _ h2,setRow_other _ _ _ _ h1,Below.heap_setCell _ _ _ _ h2]
      have adJ:w'.heap[A.buf]? =some (.cells (bM (lay c.st.buf o A.O)) 5 (0,0)):=by
       rw[qz,Below.heap_setCell _ _ _ _ (by show A.buf≠A.rd;omega),setRow_heap _ A.buf _ _ _ _ Cs]
       unfold lay
       rw[bytesOf,sl]
       simp[List.map_take,List.map_drop]
      have hrd:w'.heap[A.rd]? =some (.cells #[.slice (some ⟨A.sb,0,none⟩) A.O.size A.cb,.int .i64 (A.O.size:Int),.int .i64 (-1)] 100 (0,0)):=by
       rw[qz]
       have e1:((w.setCell ⟨A.rd,2,none⟩ (.int .i64 (-1))).setRow A.buf (List.take o (bM c.st.buf).toList++(List.map (fun b=>Value.int IntKind.u8 (b.toNat:Int)) A.O.data.toList++List.drop (o+A.O.size) (bM c.st.buf).toList)).toArray).heap[A.rd]? =
        some (.cells #[.slice (some ⟨A.sb,0,none⟩) A.O.size A.cb,.int .i64 c.st.m,.int .i64 (-1)] 100 (0,0)):=by
        rw[setRow_other _ _ _ _ (by omega),aZ _ ahj]
        rfl
       rw[aZ _ e1]
       rfl
      have eJ:w'.heap.size=w.heap.size:=by rw[qz];simp[size_setRow]
      obtain⟨u,hu,bo⟩:=hI.he
      have cN:=hI.ok.dy
      have gy:fa A {c.st with m:=A.O.size,buf:=lay c.st.buf o A.O} w':=by
       have lo1:=hI.ok.adA;have lo2:=hI.ok.Po
       refine⟨hI.ok,hI.below.trans ⟨Uy,Y0,qW,Nat.le_of_eq eJ.symm,fun k hk=>other k (by omega) (by omega)⟩,?_,adJ,?_,hrd,fun j hj=> ?_,⟨u,?_,?_⟩,by rw[eJ];exact hI.gj⟩
       ·rw[other _ (by omega) (by omega)];exact hI.hs
       ·show(lay c.st.buf o A.O).size=4096
        rw[Ek (by rw[hI.wH];exact ho)];exact hI.wH
       ·rw[World.cell?_of_block (w:=w) (w':=w') (a:=⟨A.sb,j,none⟩) (other A.sb (by omega) (by omega))];exact hI.wg j hj
       ·rw[other _ (by omega) (by omega)];exact hu
       ·obtain⟨h1,h2⟩:=bo
        refine⟨h1,?_⟩
        rcases h2 with h2|⟨g,cap,cur,hv,hg,hh,r⟩
        ·exact .inl h2
        ·exact .inr ⟨g,cap,cur,hv,hg,by rw[other g (by omega) (by omega)];exact hh,r⟩
      have adK:∀k,ij w' k=ij w k:=fun k=>by
       by_cases h1:k=A.buf
       ·subst h1;rw[cV adJ,cV hI.hb]
       ·by_cases h2:k=A.rd
        ·subst h2;rw[cV hrd,cV hI.hr]
        ·unfold Ev.ij World.shape?;rw[other k h1 h2]
      have nt:∀k,¬(FY A).jo k (ij w k)->k≠A.buf∧k≠A.rd:=fun k hk=>⟨fun e=>hk (.inr (.inr (.inl e))),fun e=>hk (.inr (.inr (.inr (.inl e))))⟩
      refine .inl ⟨_,_,_,bl,hq,rfl,⟨_,_,rfl,rfl,rfl⟩,⟨gy,hc.len,hc.nd,fun i b u hb hu=> ?_,fun b hb=> ?_⟩,⟨⟨Uy,Y0,qW,Nat.le_of_eq eJ.symm,fun k _=>adK k,fun k _ ht _=>other k (nt k ht).1 (nt k ht).2⟩,List.prefix_refl _,fun _ h=> .inl h⟩,fun _ m=> ?_⟩
      ·obtain⟨n1,n2⟩:=nt b (hc.free b (List.mem_of_getElem? hb)).1
       have e1:w'.cell? ⟨b,0,none⟩=w.cell? ⟨b,0,none⟩:=by simp[World.cell?,other b n1 n2]
       have e2:w'.frozen? ⟨b,0,none⟩=w.frozen? ⟨b,0,none⟩:=by simp[World.frozen?,other b n1 n2]
       rw[e1,e2]
       exact hc.cell i b u hb hu
      ·rw[adK,eJ];exact hc.free b hb
      ·have:w'.heap[A.sb]? =w.heap[A.sb]? :=other A.sb (by omega) (by omega)
       show w'.cell? ⟨A.sb,m,none⟩=w.cell? ⟨A.sb,m,none⟩
       simp[World.cell?,this]
 ·exact h.elim
theorem HX(A:Ad)(args:List SV)(c:aq (FY A)):(xU A args c).cg:=by
 unfold xU
 split
 ·exact⟨trivial,trivial⟩
 ·trivial
end
end Sc
end Go.Proofs.YtogkcphobhhbdaaGreatDoor
namespace Go.Proofs.YtogkcphobhhbdaaGreatDoor
open Go Go.RowKit
namespace Ev
set_option maxRecDepth 100000
noncomputable section
def jumps(J:Nat->Act->World->Prop)(Q:Exit->Act->World->Prop):Exit->Act->World->Prop
 | .goto l,a,w=>J l a w
 |e,a,w=>Q e a w
theorem sn{P:Program}{a:Act}{w:World}{Q:Exit->Act->World->Prop}{c:Code}(J:Nat->Nat->Act->World->Prop)
 (first:c.wp P (jumps (fun l a w=>∃n,J n l a w) Q) a w)
 (pass:∀n l a w,J n l a w->∃rest,findLabel c l=some rest∧rest.wp P (jumps (fun l' a' w'=>∃m,m<n∧J m l' a' w') Q) a w):(Code.scope c).wp P Q a w:=by
 intro b k cs
 have hg:∀l rest,findLabel c l=some rest->gotoIn l (.inScope c::k)=some (.code rest:: .inScope c::k):=fun l rest hf=>by simp[gotoIn,hf]
 have key:∀n l a w,J n l a w->∃rest,findLabel c l=some rest∧∃e a' w',Q e a' w'∧Arrives P (lone (b.at a (.code rest:: .inScope c::k)) cs w) b k cs e a' w':=by
  intro n
  induction n using Nat.strongRecOn with
  |_ n ih=>
   intro l a w hJ
   obtain⟨rest,hf,hp⟩:=pass n l a w hJ
   refine⟨rest,hf,?_⟩
   obtain⟨e,uo,uq,hq,ur⟩:=hp b (.inScope c::k) cs
   cases e with
   |normal=>exact⟨.normal,uo,uq,hq,Steps.trans ur (.one step_inScope)⟩
   |exit id=>exact⟨.exit id,uo,uq,hq,fun k' hk=>ur k' (by simp[exitTo,hk])⟩
   |goto l'=>
    obtain⟨m,bz,hJ'⟩:=hq
    obtain⟨PE,Y1,aaf,aag,aah,PF,Ct⟩:=ih m bz l' uo uq hJ'
    exact⟨aaf,aag,aah,PF,.of_steps (ur _ (hg l' PE Y1)) Ct⟩
   |ret=>exact⟨_,uo,uq,hq,ur⟩
   |panic ch=>exact⟨_,uo,uq,hq,ur⟩
   |outgrown=>exact⟨_,uo,uq,hq,ur⟩
 obtain⟨e,uo,uq,hq,ur⟩:=first b (.inScope c::k) cs
 cases e with
 |normal=>exact⟨.normal,uo,uq,hq,.head step_scope (Steps.trans ur (.one step_inScope))⟩
 |exit id=>exact⟨.exit id,uo,uq,hq,fun k' hk=> .head step_scope (ur k' (by simp[exitTo,hk]))⟩
 |goto l'=>
  obtain⟨n,hJ'⟩:=hq
  obtain⟨PE,Y1,aaf,aag,aah,PF,Ct⟩:=key n l' uo uq hJ'
  exact⟨aaf,aag,aah,PF,.of_steps (.head step_scope (ur _ (hg l' PE Y1))) Ct⟩
 |ret=>exact⟨_,uo,uq,hq,.of_steps (.one step_scope) ur⟩
 |panic ch=>exact⟨_,uo,uq,hq,.of_steps (.one step_scope) ur⟩
 |outgrown=>exact⟨_,uo,uq,hq,.of_steps (.one step_scope) ur⟩
theorem El{Y:Sys}(hY:Laws Y){C:eS Y}(hC:C.Ok){π:Type}(F:Nat->π->E Y)(μ:Nat->π->Nat)(h:Nat->π->af (Ex×E Y)){b:Code}(rest:Nat->Code)
 (pass:∀l p (Q:Ex×E Y->Prop),(h l p).aD Q->findLabel b l=some (rest l)∧(az C (rest l) (F l p)).aD fun xe=>match xe.1 with
   | .goto l'=>∃p',wj xe.2 (F l' p')∧μ l' p'<μ l p∧(h l' p').aD Q
   |_=>Q xe)
 (oB:∀l p (Q:Ex×E Y->Prop),Y.eM (F l p).c.st->(h l p).aD Q->∃q,Q q∧Y.eM q.2.c.st)
 (g:E Y->af (Ex×E Y))
 (first:∀e (Q:Ex×E Y->Prop),(g e).aD Q->(az C b e).aD fun xe=>match xe.1 with
   | .goto l'=>∃p',wj xe.2 (F l' p')∧(h l' p').aD Q
   |_=>Q xe):ki Y C.N (.scope b) g:=by
 refine⟨fun e0 mJ a0 w0 Q Z8 Z9=> ?_,fun e Q hb hs=> ?_⟩
 ·refine sn (fun n l a w=>∃p bl,cL Y C.N (F l p) bl a w∧Ext Y mJ bl w0 w∧(h l p).aD Q∧μ l p=n) ?_ ?_
  ·refine wp_mono (ju hY hC b e0 mJ a0 w0 _ Z8 (first e0 Q Z9)) ?_
   rintro ex a1 w1 (⟨x1,e1,vu,hq,rfl,gG,cn⟩|⟨rfl,⟨x1,e1⟩,hq,cz⟩)
   ·obtain⟨⟩|⟨i⟩|⟨l⟩|⟨⟩:=x1
    ·exact .inl ⟨.normal,_,_,hq,rfl,gG,cn⟩
    ·exact .inl ⟨.exit i,_,_,hq,rfl,gG,cn⟩
    ·obtain⟨p',hw,jt⟩:=hq
     exact⟨_,p',vu,gG.da hw,cn,jt,rfl⟩
    ·exact .inl ⟨.ret,_,_,hq,rfl,gG,cn⟩
   ·refine .inr ⟨rfl,?_⟩
    obtain⟨⟩|⟨i⟩|⟨l⟩|⟨⟩:=x1
    ·exact⟨_,hq,cz⟩
    ·exact⟨_,hq,cz⟩
    ·obtain⟨p',hw,jt⟩:=hq
     exact oB l p' Q (by rw[hw.1];exact cz) jt
    ·exact⟨_,hq,cz⟩
  ·rintro n l a w ⟨p,bl,hI,bN,hs,hn⟩
   obtain⟨hf,hp⟩:=pass l p Q hs
   refine⟨rest l,hf,wp_mono (ju hY hC (rest l) (F l p) bl a w _ hI hp) ?_⟩
   rintro ex a1 w1 (⟨x1,e1,vu,hq,rfl,gG,cn⟩|⟨rfl,⟨x1,e1⟩,hq,cz⟩)
   ·obtain⟨⟩|⟨i⟩|⟨l'⟩|⟨⟩:=x1
    ·exact .inl ⟨.normal,_,_,hq,rfl,gG,bN.trans cn⟩
    ·exact .inl ⟨.exit i,_,_,hq,rfl,gG,bN.trans cn⟩
    ·obtain⟨p',hw,bz,jt⟩:=hq
     exact⟨_,by rw[←hn];exact bz,p',vu,gG.da hw,bN.trans cn,jt,rfl⟩
    ·exact .inl ⟨.ret,_,_,hq,rfl,gG,bN.trans cn⟩
   ·refine .inr ⟨rfl,?_⟩
    obtain⟨⟩|⟨i⟩|⟨l'⟩|⟨⟩:=x1
    ·exact⟨_,hq,cz⟩
    ·exact⟨_,hq,cz⟩
    ·obtain⟨p',hw,_,jt⟩:=hq
     exact oB l' p' Q (by rw[hw.1];exact cz) jt
    ·exact⟨_,hq,cz⟩
 ·obtain⟨⟨x1,e1⟩,hq,cz⟩:=fV hY hC b e _ hb (first e Q hs)
  obtain⟨⟩|⟨i⟩|⟨l⟩|⟨⟩:=x1
  ·exact⟨_,hq,cz⟩
  ·exact⟨_,hq,cz⟩
  ·obtain⟨p',hw,jt⟩:=hq
   exact oB l p' Q (by rw[hw.1];exact cz) jt
  ·exact⟨_,hq,cz⟩
end
end Ev
end Go.Proofs.YtogkcphobhhbdaaGreatDoor
namespace Go.Proofs.YtogkcphobhhbdaaGreatDoor
open Go Go.RowKit Go.Lib
namespace Sc
open Ev
set_option maxRecDepth 100000
noncomputable section
def PG(A:Ad):ej (FY A):=⟨139,#[],false,xU A⟩
theorem PH(A:Ad)(hA:A.Ok):(PG A).Ok:=⟨fun args w=>by kernel_rfl,U9 A hA,L8 A⟩
theorem PI(a:Addr)(args:Array Value)(w:World):(callMethod (.iface 92 (.pointer (some a))) "Read" args).run Tryz.prog w= .ok (.enter 139 (#[.pointer (some a)]++args)) w:=by
 have hmt:(method (Tryz.prog.types.size+Made.depth) 92 (.pointer (some a)) "Read").run Tryz.prog w= .ok (139,.pointer (some a)) w:=by kernel_rfl
 have hc:∀x,(callFunc 139 x).run Tryz.prog w= .ok (.enter 139 x) w:=fun x=>by kernel_rfl
 simp only[callMethod,Sem.run_bind,program,Sem.run_pure,Result.andThen_ok]
 have hp:(Sem.program Sem.pure).run Tryz.prog w= .ok Tryz.prog w:=rfl
 rw[hp]
 simp only[Result.andThen_ok]
 rw[hmt]
 exact hc _
def PJ(A:Ad)(N:Nat):eS (FY A):=⟨N,[],[],[],[],[(92,"Read",PG A)],1⟩
theorem J5(A:Ad)(hA:A.Ok)(N:Nat):(PJ A N).Ok where
 uf:=fun p hp=>by cases hp
 still:=fun p hp=>by cases hp
 fns:=fun p hp=>by cases hp
 rX:=fun p hp=>by
  obtain rfl:p=(92,"Read",PG A):=by simpa[PJ] using hp
  refine⟨PH A hA,rfl,HX A,fun a args w=> ?_⟩
  have:=PI a args w
  show Sem.run Tryz.prog _ w=Result.ok (Next.enter 139 (#[.pointer (some a)]++args++#[])) w
  rw[Array.append_empty]
  exact this
abbrev pM(n:Int):Int:=IntKind.i64.wrap n
def lR(A:Ad)(x:Raw)(bx:List Value)(n:Int):af (SV×aq (FY A)):=
 .aY (0<=pM (x.e+n)∧(pM (x.e+n)).toNat<4096) (.aY (0+(pM (x.e+n)).toNat<4096)
  (.ae (.val (.tuple #[]),⟨{x with e:=pM (x.e+n),buf:=x.buf.set! (0+(pM (x.e+n)).toNat) 128},bx⟩)))
def kX(A:Ad)(x:Raw)(bx:List Value):af (SV×aq (FY A)):=
 .aj (decide ((0:Int)<10))
  (.aY (0<=x.e∧x.e<=pM ((4096:Nat)-1)∧pM ((4096:Nat)-1)<=((4096:Nat):Int)∧4096<=4096∧x.e.toNat<4096)
    (.aY ("Read" = "Read") (.aY (Value.pointer (some ⟨A.rd,0,none⟩)= .pointer (some ⟨A.rd,0,none⟩))
      (.aj (Nat.beq x.m A.O.size)
        (.aj (decide ((0:Int)<0)) .fail (.aj (decide ((0:Int)>0)) (lR A {x with io:=true} bx 0) (lR A {x with io:=true} bx 0)))
        (.aY (x.m=0∧A.O.size<=(pM ((4096:Nat)-1)).toNat-x.e.toNat∧0+x.e.toNat+A.O.size<=4096)
          (.aj (decide ((A.O.size:Int)<0)) .fail (.aj (decide ((A.O.size:Int)>0)) (lR A {x with io:=false,m:=A.O.size,buf:=lay x.buf (0+x.e.toNat) A.O} bx A.O.size) .fail)))))))
  (.aY (0<=x.e∧x.e.toNat<4096) (.aY (0+x.e.toNat<4096) .fail))
def nI(A:Ad)(x:Raw)(bx:List Value)(b:Int):af (SV×aq (FY A)):=
 .aY (0<=b∧b<=x.e∧x.e<=((4096:Nat):Int)∧4096<=4096∧b.toNat<4096)
  (.aj (decide (pM (((x.e.toNat-b.toNat:Nat):Int)*2)>((4096:Nat):Int))) .fail
    (.aj (decide (b>0))
      (.aY (0+Nat.min (x.e.toNat-b.toNat) 4096<=4096∧0+b.toNat+Nat.min (x.e.toNat-b.toNat) 4096<=4096)
        (kX A {x with buf:=wk x.buf 0 (0+b.toNat) (Nat.min (x.e.toNat-b.toNat) 4096),r:=pM (x.r-b),e:=pM (x.e-b)} bx))
      (kX A {x with r:=pM (x.r-b),e:=pM (x.e-b)} bx)))
def vC(A:Ad)(x:Raw)(bx:List Value):af (SV×aq (FY A)):=
 .aj (decide (x.b>=0)) (nI A {x with b:=0} bx x.b) (nI A x bx x.r)
theorem U_(A:Ad)(x:Raw)(bx:List Value):eh (PJ A Tryz.f86.ntmps) Tryz.f86 [.st 0] ⟨x,bx⟩=vC A x bx:=by kernel_rfl
theorem PK(A:Ad)(hA:A.Ok):fg (FY A) 86 #[] true (eh (PJ A Tryz.f86.ntmps) Tryz.f86):=
 fM (PD A hA) (J5 A hA Tryz.f86.ntmps) Tryz.func86
theorem Em(A:Ad)(x:Raw)(bx:List Value)(Q:SV×aq (FY A)->Prop)(h:(vC A x bx).aD Q):(eh (PJ A Tryz.f86.ntmps) Tryz.f86 [.st 0] ⟨x,bx⟩).aD Q:=by
 rw[U_];exact h
def En(A:Ad)(args:List SV)(c:aq (RY A)):af (SV×aq (RY A)):=
 match args with
 |[.st 0]=>(vC A c.st c.bx).bind fun p=> .ae (.val (.tuple #[]),⟨p.2.st,p.2.bx⟩)
 |_=> .fail
theorem nJ{A:Ad}{x:Raw}{bx:List Value}{n:Int}{Q:SV×aq (FY A)->Prop}(h:(lR A x bx n).aD Q):(lR A x bx n).aD fun p=>p.1= .val (.tuple #[])∧Q p:=
 ⟨h.1,h.2.1,rfl,h.2.2⟩
theorem qA{A:Ad}{x:Raw}{bx:List Value}{Q:SV×aq (FY A)->Prop}(h:(kX A x bx).aD Q):(kX A x bx).aD fun p=>p.1= .val (.tuple #[])∧Q p:=by
 unfold kX at*
 refine⟨fun h0=> ?_,fun h0=> ?_⟩
 ·obtain⟨h1,h2,h3,h4⟩:=h.1 h0
  refine⟨h1,h2,h3,fun h5=> ?_,fun h5=> ?_⟩
  ·have h6:=h4.1 h5
   exact⟨h6.1,fun h7=>⟨fun h8=>nJ ((h6.2 h7).1 h8),fun h8=>nJ ((h6.2 h7).2 h8)⟩⟩
  ·have h6:=h4.2 h5
   exact⟨h6.1,h6.2.1,fun h7=>⟨fun h8=>nJ ((h6.2.2 h7).1 h8),(h6.2.2 h7).2⟩⟩
 ·exact(h.2 h0).2.2.elim
theorem sq{A:Ad}{x:Raw}{bx:List Value}{b:Int}{Q:SV×aq (FY A)->Prop}(h:(nI A x bx b).aD Q):(nI A x bx b).aD fun p=>p.1= .val (.tuple #[])∧Q p:=by
 unfold nI at*
 refine⟨h.1,h.2.1,fun h1=> ?_⟩
 have h2:=h.2.2 h1
 exact⟨fun h3=>⟨(h2.1 h3).1,qA (h2.1 h3).2⟩,fun h3=>qA (h2.2 h3)⟩
theorem HY{A:Ad}{x:Raw}{bx:List Value}{Q:SV×aq (FY A)->Prop}(h:(vC A x bx).aD Q):(vC A x bx).aD fun p=>p.1= .val (.tuple #[])∧Q p:=
 ⟨fun h0=>sq (h.1 h0),fun h0=>sq (h.2 h0)⟩
theorem Va{A:Ad}{bl:List Nat}{x:Raw}{bx:List Value}{w:World}(h:fu (RY A) bl ⟨x,bx⟩ w):fu (FY A) bl ⟨x,bx⟩ w:=⟨h.inv,h.len,h.nd,h.cell,h.free⟩
theorem PL{A:Ad}{bl:List Nat}{x:Raw}{bx:List Value}{w:World}(h:fu (FY A) bl ⟨x,bx⟩ w):fu (RY A) bl ⟨x,bx⟩ w:=⟨h.inv,h.len,h.nd,h.cell,h.free⟩
theorem aai{A:Ad}{bl dw:List Nat}{w w':World}(h:Ext (FY A) bl dw w w'):Ext (RY A) bl dw w w':=⟨⟨h.fr.os,h.fr.tape,h.fr.output,h.fr.size,h.fr.ty,h.fr.bm⟩,h.pre,h.new⟩
theorem Vb(A:Ad)(hA:A.Ok):fg (RY A) 86 #[] true (En A):=by
 intro args c bl w bS Q cK hc h
 unfold En at h
 split at h
 ·rw[ax]at h
  have h':=Em A c.st c.bx _ (HY h)
  have aaj:oM (FY A) bl w [.st 0] bS:=by
   cases cK with
   |cons h1 hr=>cases hr;exact .cons h1 .nil
  refine(PK A hA [.st 0] ⟨c.st,c.bx⟩ bl w bS _ aaj (Va hc) h').mono ?_
  rintro e w' (⟨sv,c',v,dw,⟨h1,h2⟩,rfl,hrel,hinv,bN,_⟩|⟨rfl,p,⟨h1,h2⟩,hb⟩)
  ·simp only at h1
   subst h1
   exact .inl ⟨_,_,v,dw,h2,rfl,hrel,PL hinv,aai bN,fun h=>by cases h⟩
  ·exact .inr ⟨rfl,_,h2,hb⟩
 ·exact h.elim
theorem L9(A:Ad)(hA:A.Ok):gT (Y:=RY A) (En A):=by
 intro args c Q hb h
 unfold En at h
 split at h
 ·rw[ax]at h
  obtain⟨p,hp,fX⟩:=iT (PD A hA) (J5 A hA Tryz.f86.ntmps) [.st 0] ⟨c.st,c.bx⟩ _ hb (Em A c.st c.bx _ h)
  exact⟨_,hp,fX⟩
 ·exact h.elim
end
end Sc
end Go.Proofs.YtogkcphobhhbdaaGreatDoor
