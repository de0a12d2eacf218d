/- The scanner of the program told as plain functions, part 15: texts joined and shortened by a program (wip/tools/mini.py). -/
import Derived.Test.YtogkcphobhhbdaaGreatDoorYc14
set_option linter.unusedVariables false
set_option linter.unusedSimpArgs false
set_option maxHeartbeats 32000000
namespace Go.Proofs.YtogkcphobhhbdaaGreatDoor
open Go Go.RowKit Go.Lib
namespace Sc
open Ev
set_option maxRecDepth 100000
noncomputable section
def lp(A:bG)(F:List Value->Option (Prop×SV))(args:List SV)(c:aq (LY A)):af (SV×aq (LY A)):=
 match args.mapM iE with
 |some vs=>match F vs with
  |some r=> .aY r.1 (.ae (r.2,c))
  |none=> .fail
 |none=> .fail
theorem Oa{Y:Ev.Sys}{bl:List Nat}{w:World}{args:List SV}{bS:List Value}(h:oM Y bl w args bS):∀{vs:List Value},args.mapM iE=some vs->bS=vs:=by
 induction h with
 |nil=>intro vs h;simpa using h.symm
 |@cons sv v l bS h1 _ ih=>
  intro vs h
  simp only[List.mapM_cons,Option.bind_eq_bind,Option.bind_eq_some_iff]at h
  obtain⟨u,hu,us,hus,h⟩:=h
  simp only[Option.pure_def,Option.some.injEq]at h
  subst h
  rw[fs h1 hu,ih hus]
theorem afB{A:bG}(hA:A.Ok){f:FuncId}{F:List Value->Option (Prop×SV)}
 (h:∀(vs:List Value) (P:Prop) (r:SV) (st:LI) (w:World),F vs=some (P,r)->P->bj A st w->∃v,(∀bl w,Rel (LY A) bl w r v)∧Calls Tryz.prog f vs.toArray w fun e w'=>e= .returned v∧Below w.heap.size w w'):fg (LY A) f #[] false (lp A F):=by
 refine N7 hA (fun args c bl w bS Q cK hinv hs=> ?_)
 unfold lp at hs
 split at hs
 ·rename_i vs hvs
  split at hs
  ·rename_i r hr
   obtain⟨P,r⟩:=r
   rw[Oa cK hvs]
   obtain⟨v,h1,h2⟩:=h vs P r c.st w hr hs.1 hinv
   exact⟨r,v,hs.2,h1,h2⟩
  ·exact hs.elim
 ·exact hs.elim
theorem XT{A:bG}{F:List Value->Option (Prop×SV)}:gT (Y:=LY A) (lp A F):=fun args c Q hb h=>hb.elim
theorem kc{A:bG}{F:List Value->Option (Prop×SV)}(args:List SV)(c:aq (LY A)):(lp A F args c).quiet c:=by
 unfold lp
 split
 ·split
  ·exact rfl
  ·trivial
 ·trivial
def XU(A:bG)(f:FuncId)(F:List Value->Option (Prop×SV)):ej (LY A):=⟨f,#[],false,lp A F⟩
theorem pB{A:bG}(hA:A.Ok){f:FuncId}{F:List Value->Option (Prop×SV)}(he:∀args w,(callFunc f args).run Tryz.prog w= .ok (.enter f args) w)
 (h:∀(vs:List Value) (P:Prop) (r:SV) (st:LI) (w:World),F vs=some (P,r)->P->bj A st w->∃v,(∀bl w,Rel (LY A) bl w r v)∧Calls Tryz.prog f vs.toArray w fun e w'=>e= .returned v∧Below w.heap.size w w'):(XU A f F).Ok:=⟨he,afB hA h,XT⟩
def hpF:List Value->Option (Prop×SV)
 |[.string s,.string p]=>some (True,.val (.bool (Lib.hasPrefix s.data.toList p.data.toList)))
 |_=>none
def drF:List Value->Option (Prop×SV)
 |[.string s]=>some (True,.two (.val (.int .i32 (Lib.decodeGo s).1)) (.val (.int .i64 (Lib.decodeGo s).2)))
 |_=>none
def ilF:List Value->Option (Prop×SV)
 |[.int .i32 c]=>some (-2147483648<=c∧c<=2147483647,.val (.bool (iO c)))
 |_=>none
def iuF:List Value->Option (Prop×SV)
 |[.int .i32 c]=>some (-2147483648<=c∧c<=2147483647,.val (.bool (isDigitU c)))
 |_=>none
def idF:List Value->Option (Prop×SV)
 |[.int .u8 b]=>some (True,.val (.bool (decide (48<=b)&&decide (b<=57))))
 |_=>none
def ikF:List Value->Option (Prop×SV)
 |[.string s]=>some (s.size<=8589934592,.val (.bool (gY s)))
 |_=>none
def koF:List Value->Option (Prop×SV)
 |[.string s]=>some (s.size<=8589934592,.val (.int .i64 (cE s)))
 |_=>none
def esF:List Value->Option (Prop×SV)
 |[.string s,.int .u8 q]=>some (s.size<=2147483647∧0<q,.val (.int .i64 (dR s q)))
 |_=>none
theorem Ob(b:Int)(w:World):Calls Tryz.prog 40 #[.int .u8 b] w fun e w'=>e= .returned (.bool (decide (48<=b)&&decide (b<=57)))∧w'=w:=by
 by_cases h:48<=b
 ·have h1:decide (b>=48)=true:=decide_eq_true h
  have h2:decide (48<=b)=true:=decide_eq_true h
  go_enter Tryz.func40,Tryz.ntmps40
  go_wp2_with fail
  exact⟨rfl,_,bK (k:=2) (by kernel_rfl) rfl,by simp[h],rfl⟩
 ·have h1:decide (b>=48)=false:=decide_eq_false h
  go_enter Tryz.func40,Tryz.ntmps40
  go_wp2_with fail
  exact⟨rfl,_,bK (k:=2) (by kernel_rfl) rfl,by simp[h],rfl⟩
theorem Gw{s:U}{i:Nat}(h:s.size<=i):s.get! i=0:=by
 rw[dM,List.getD_eq_getElem?_getD,List.getElem?_eq_none (by rw[bu];exact h)];rfl
theorem Oc{w:World}{s:U}{q:Int}(hs:s.size<2)(hq:0<q):Calls Tryz.prog 57 #[.string s,.int .u8 q] w fun e w'=>e= .returned (.int .i64 (dR s q))∧w'=w:=by
 have e:dR s q=0:=by
  unfold dR
  have h0:s.get! 1=0:=Gw (by omega)
  rw[h0,if_neg,if_neg,if_neg,if_neg,if_neg]
  ·decide
  ·decide
  ·decide
  ·decide
  ·intro hh
   rcases hh with hh|hh
   ·exact absurd hh (by decide+kernel)
   ·have hh:(0:Int)=q:=hh
    omega
 rw[e]
 have h2:((s.size:Nat):Int)<2:=by omega
 go_enter Tryz.func57,Tryz.ntmps57
 go_wp2_with fail
 exact⟨rfl,_,bK (k:=4) (by kernel_rfl) rfl,rfl,rfl⟩
def K_(A:bG):List (Nat×ej (LY A)):=
 [(24,XU A 24 hpF),(52,XU A 52 drF),(38,XU A 38 ilF),(54,XU A 54 iuF),
  (40,XU A 40 idF),(55,XU A 55 ikF),(56,XU A 56 koF),(57,XU A 57 esF)]
def Ju:List Nat:=[24,52,38,54,40,55,56,57]
structure eI(A:bG)(l:List (Nat×ej (LY A))):Prop where
 all:∀p∈l,p.2.Ok∧p.2.f=p.1∧p.2.kQ=#[]∧(Ev.dx Ju p.1=true->p.2.iR=false∧∀args c,(p.2.g args c).quiet c)
theorem eI.cons{A:bG}{l:List (Nat×ej (LY A))}(h:eI A l){n:Nat}{s:ej (LY A)}(h1:s.Ok)(h2:s.f=n)(h3:s.kQ=#[])(h4:Ev.dx Ju n=true->s.iR=false∧∀args c,(s.g args c).quiet c):eI A ((n,s)::l):=
 ⟨fun p hp=>by
  rcases List.mem_cons.1 hp with rfl|hp
  ·exact⟨h1,h2,h3,h4⟩
  ·exact h.all p hp⟩
theorem eI.nil{A:bG}:eI A []:=⟨fun p hp=>by cases hp⟩
theorem rG{A:bG}{st:LI}{w:World}(h:bj A st w):oU w A.ea:=Bv h.ok.jU h.below
theorem zt(A:bG)(hA:A.Ok):eI A (K_ A):=by
 refine eI.cons ?_ (pB hA (fun args w=>by kernel_rfl) (fun vs P r st w hf hp hi=> ?_)) rfl rfl (fun _=>⟨rfl,kc⟩)
 rotate_left
 ·unfold hpF at hf
  split at hf
  ·cases hf;exact⟨_,fun _ _=>rfl,(Tryz.strings_HasPrefix _ _ w).mono fun e w' ⟨h1,h2⟩=>⟨h1,h2▸Below.refl _ _⟩⟩
  ·cases hf
 refine eI.cons ?_ (pB hA (fun args w=>by kernel_rfl) (fun vs P r st w hf hp hi=> ?_)) rfl rfl (fun _=>⟨rfl,kc⟩)
 rotate_left
 ·unfold drF at hf
  split at hf
  ·cases hf;exact⟨_,fun _ _=>⟨_,_,rfl,rfl,rfl⟩,Tryz.utf8_DecodeRuneInString _ w (rG hi).Pn⟩
  ·cases hf
 refine eI.cons ?_ (pB hA (fun args w=>by kernel_rfl) (fun vs P r st w hf hp hi=> ?_)) rfl rfl (fun _=>⟨rfl,kc⟩)
 rotate_left
 ·unfold ilF at hf
  split at hf
  ·cases hf;exact⟨_,fun _ _=>rfl,N8 (rG hi) _ hp.1 hp.2⟩
  ·cases hf
 refine eI.cons ?_ (pB hA (fun args w=>by kernel_rfl) (fun vs P r st w hf hp hi=> ?_)) rfl rfl (fun _=>⟨rfl,kc⟩)
 rotate_left
 ·unfold iuF at hf
  split at hf
  ·cases hf;exact⟨_,fun _ _=>rfl,N9 (rG hi) _ hp.1 hp.2⟩
  ·cases hf
 refine eI.cons ?_ (pB hA (fun args w=>by kernel_rfl) (fun vs P r st w hf hp hi=> ?_)) rfl rfl (fun _=>⟨rfl,kc⟩)
 rotate_left
 ·unfold idF at hf
  split at hf
  ·cases hf;exact⟨_,fun _ _=>rfl,(Ob _ w).mono fun e w' ⟨h1,h2⟩=>⟨h1,h2▸Below.refl _ _⟩⟩
  ·cases hf
 refine eI.cons ?_ (pB hA (fun args w=>by kernel_rfl) (fun vs P r st w hf hp hi=> ?_)) rfl rfl (fun _=>⟨rfl,kc⟩)
 rotate_left
 ·unfold ikF at hf
  split at hf
  ·cases hf;exact⟨_,fun _ _=>rfl,(zi w _ hp).mono fun e w' ⟨h1,h2⟩=>⟨h1,h2▸Below.refl _ _⟩⟩
  ·cases hf
 refine eI.cons ?_ (pB hA (fun args w=>by kernel_rfl) (fun vs P r st w hf hp hi=> ?_)) rfl rfl (fun _=>⟨rfl,kc⟩)
 rotate_left
 ·unfold koF at hf
  split at hf
  ·cases hf;exact⟨_,fun _ _=>rfl,Gv w _ hp⟩
  ·cases hf
 refine eI.cons ?_ (pB hA (fun args w=>by kernel_rfl) (fun vs P r st w hf hp hi=> ?_)) rfl rfl (fun _=>⟨rfl,kc⟩)
 rotate_left
 ·unfold esF at hf
  split at hf
  ·rename_i s q
   cases hf
   by_cases h2:2<=s.size
   ·exact⟨_,fun _ _=>rfl,(Gf w s q h2 (Nat.le_trans hp.1 (by decide))).mono fun e w' ⟨h1,h2⟩=>⟨h1,h2▸Below.refl _ _⟩⟩
   ·exact⟨_,fun _ _=>rfl,(Oc (by omega) hp.2).mono fun e w' ⟨h1,h2⟩=>⟨h1,h2▸Below.refl _ _⟩⟩
  ·cases hf
 exact eI.nil
def xh(A:bG)(l:List (Nat×ej (LY A)))(N:Nat)(jI:List (Nat×(E (LY A)->af (Ex×E (LY A)))))(kj:Nat):eS (LY A):=⟨N,l,[],jI,Ju,[],kj⟩
theorem iD(A:bG){l:List (Nat×ej (LY A))}(hl:eI A l)(N:Nat)(jI:List (Nat×(E (LY A)->af (Ex×E (LY A)))))(kj:Nat):(xh A l N jI kj).Ok where
 uf:=fun p hp=>⟨(hl.all p hp).1,(hl.all p hp).2.1,(hl.all p hp).2.2.1⟩
 still:=fun p hp h=>(hl.all p hp).2.2.2 h
 fns:=fun p hp=>by cases hp
 rX:=fun p hp=>by cases hp
theorem Od:(Tryz.prog.info? 29).map (fun i=>(i.zero,i.size,i.bytes))=some (some (.agg #[.int .i64 0,.string ⟨#[]⟩,.int .i64 0,.int .i64 0,.int .i64 0]),5,48):=by kernel_rfl
theorem La{e t:TypeId}{sz bytes:Nat}{z:Value}(aie:(Tryz.prog.info? e).map (fun i=>(i.zero,i.size,i.bytes))=some (some z,sz,bytes))(hu:Tryz.prog.underlying t=some (.slice e))(hz3:z.cells.size=sz)(eJ:0<sz)(zM:0<bytes)(Ww:bytes<=1000)
 {w:World}{k base n:Nat}{v:Value}{xs:List Value}{cs:List Value}(bo:w.ownsRow base e sz v n xs)(cN:base<=w.heap.size)(hn:n<=8589934592)(ie:cs.length=sz)(Cc:∀u∈cs,u.oneCell'=true)
 {ops:Array Oper}{o:Oper}{a:Act}{K:Act->World->Prop}{Q:Exit->Act->World->Prop}{E:Prop}(DR:o.guard=none)(s x:Operand)
 (ho:o.op= .call {callee:= .builtin .append,args:=#[s,x],argTypes:=#[t,t]})(hs:a.eval s=v)(hx:a.eval x= .slice (some ⟨w.heap.size,0,none⟩) 1 1)
 (h:∀v' w',w'.ownsRow base e sz v' (n+1) (xs++cs)->((w.drewN k).alloc (.cells cs.toArray e)).grownBy w' v.ownBlock->(∀g,v.ownBlock=some g->ij w' g=some e)->K (a.put o.dst v') w'):
 if Region.wanted o (yielded ops a.tmps)=true then Oper.wp Tryz.prog o a ((w.drewN k).alloc (.cells cs.toArray e)) K Q else E:=by
 obtain⟨i0,FH,Eh,L5,HU⟩:=info_parts aie
 have hw:Region.wanted o (yielded ops a.tmps)=true:=by simp[Region.wanted,DR]
 rw[if_pos hw]
 have gj:((w.drewN k).alloc (.cells cs.toArray e)).heap.size=w.heap.size+1:=by simp
 have hmul:(n+1)*bytes<=8589934593*1000:=Nat.mul_le_mul (by omega) Ww
 rcases oV (P:=Tryz.prog) ((w.drewN k).alloc (.cells cs.toArray e)) base t o.type e i0 _ sz bytes hu FH Eh L5 HU hz3 eJ zM v n xs (fW (Bt bo k) _) ⟨w.heap.size,0,none⟩ 1 1 cs (by rw[ie,Nat.one_mul])
  (World.news_of_block (cs:=cs.toArray) (t:=e) (fr:=(0,0)) (heap_alloc_new (w.drewN k) _)) Cc (vB bo) (holdsV_alloc_new (w.drewN k) _ _ _ (by simp[ie])) (by rw[gj];omega) (by simp only[roomBytes,Nat.one_mul];omega)with⟨v',w',hr,h2,h3,h4⟩|⟨qo,_⟩
 ·unfold Oper.wp execOp
  simp only[ho,resolve,invoke,builtin,Sem.run_bind,Sem.run_pure,Result.andThen_ok,List.map_toArray,List.map_cons,List.map_nil,hs,hx,hr]
  exact h v' w' h2 h3 h4
 ·exfalso
  simp only[roomBytes]at qo
  omega
theorem Gx:Tryz.prog.underlying 22=some (.slice 29):=by kernel_rfl
theorem S_{w:World}{k base n:Nat}{v:Value}{xs:List Value}{t:eP}(bo:w.ownsRow base 29 5 v n xs)(cN:base<=w.heap.size)(hn:n<=8589934592)
 {ops:Array Oper}{o:Oper}{a:Act}{K:Act->World->Prop}{Q:Exit->Act->World->Prop}{E:Prop}(DR:o.guard=none)(s x:Operand)
 (ho:o.op= .call {callee:= .builtin .append,args:=#[s,x],argTypes:=#[22,22]})(hs:a.eval s=v)(hx:a.eval x= .slice (some ⟨w.heap.size,0,none⟩) 1 1)
 (h:∀v' w',w'.ownsRow base 29 5 v' (n+1) (xs++cw t)->((w.drewN k).alloc (.cells (cw t).toArray 29)).grownBy w' v.ownBlock->(∀g,v.ownBlock=some g->ij w' g=some 29)->K (a.put o.dst v') w'):
 if Region.wanted o (yielded ops a.tmps)=true then Oper.wp Tryz.prog o a ((w.drewN k).alloc (.cells (cw t).toArray 29)) K Q else E:=
 La Od Gx rfl (by omega) (by omega) (by omega) bo cN hn rfl (by simp[cw,Value.oneCell']) DR s x ho hs hx h
abbrev eR(A:bG)(w w':World):Prop:=Fr (LY A) [] w w'
theorem eR.trans{A:bG}{a b c:World}(h1:eR A a b)(h2:eR A b c):eR A a c:=
 ⟨h2.os.trans h1.os,h2.tape.trans h1.tape,h2.output.trans h1.output,Nat.le_trans h1.size h2.size,fun k hk=>(h2.ty k (Nat.lt_of_lt_of_le hk h1.size)).trans (h1.ty k hk),
  fun k hk ht hb=>(h2.bm k (Nat.lt_of_lt_of_le hk h1.size) (by rw[h1.ty k hk];exact ht) hb).trans (h1.bm k hk ht hb)⟩
theorem hH{A:bG}(w:World):eR A w w.drew:=⟨rfl,rfl,rfl,Nat.le_refl _,fun _ _=>rfl,fun _ _ _ _=>rfl⟩
theorem ig{A:bG}{x:LI}{w:World}(h:bj A x w)(o:Nat)(v:Value):eR A w (w.setCell ⟨A.S,o,none⟩ v):=
 ⟨rfl,rfl,rfl,by simp,fun k hk=>eU _ _ _ _,fun k hk ht _=>Below.heap_setCell _ _ _ _ (fun e=>ht (.inr (.inl e)))⟩
theorem qa{A:bG}{w w':World}(h:Below w.heap.size w w'):eR A w w':=
 ⟨h.os,h.tape,h.output,h.size,fun k hk=>by unfold ij World.shape?;rw[h.block k hk],fun k hk _ _=>h.block k hk⟩
theorem Lb{A:bG}{w w1:World}{k n:Nat}{v:Value}{xs:List Value}{o:Obj}{e:TypeId}{sz:Nat}(he:e=29∨e=53)(hr:A.rows=true)(bo:w.ownsRow A.base e sz v n xs)
 (hg:((w.drewN k).alloc o).grownBy w1 v.ownBlock)(xT:∀g,v.ownBlock=some g->ij w1 g=some e):eR A w w1:=by
 have hb:∀k',k'<w.heap.size->some k'≠v.ownBlock->w1.heap[k']? =w.heap[k']? :=fun k' hk dH=>
  (hg.block _ (by rw[World.size_alloc];exact Nat.lt_succ_of_lt hk) dH).trans (Below.heap_alloc _ _ _ hk)
 have hs:=hg.size
 rw[World.size_alloc]at hs
 refine⟨hg.os,hg.tape,hg.output,Nat.le_of_succ_le hs,fun k' hk=> ?_,fun k' hk ht _=> ?_⟩
 ·by_cases h2:v.ownBlock=some k'
  ·rw[xT k' h2,(dt bo h2).2.1]
  ·unfold ij World.shape?
   rw[hb k' hk (fun e=>h2 e.symm)]
 ·refine hb k' hk (fun e2=>ht (.inr (.inr ⟨hr,(dt bo e2.symm).1,?_⟩)))
  rw[(dt bo e2.symm).2.1]
  rcases he with rfl|rfl
  ·exact .inl rfl
  ·exact .inr rfl
theorem tU{f:Func}{a:Act}{w:World}(e:f.results=#[]):(results f a.tmps).run Tryz.prog w= .ok (.tuple #[]) w:=by
 simp[results,e,go_sem]
theorem Gy{A:bG}{x:LI}{w w1:World}{k:Nat}{vo vr v':Value}{t:eP}{o:Obj}(h:bj A x w)(hr:A.rows=true)(hb:w.heap[A.S]? =some (.cells (de A.O x vo vr) 58 (0,0)))
 (o1:w.ownsRow A.base 29 5 vo x.out.length (flat cw x.out))(o2:w.ownsRow A.base 53 3 vr x.rem.length (flat di x.rem))
 (bo:w1.ownsRow A.base 29 5 v' (x.out.length+1) (flat cw x.out++cw t))(fR:((w.drewN k).alloc o).grownBy w1 vo.ownBlock)(xT:∀g,vo.ownBlock=some g->ij w1 g=some 29):
 w1.heap[A.S]? =w.heap[A.S]? ∧w1.cell? ⟨A.S,8,none⟩=some vo∧w1.frozen? ⟨A.S,8,none⟩=false∧bj A {x with out:=x.out++[t]} (w1.setCell ⟨A.S,8,none⟩ v')∧eR A w (w1.setCell ⟨A.S,8,none⟩ v'):=by
 have hS:=h.ok.hi hr
 have bz:=h.lt
 have dH:some A.S≠vo.ownBlock:=fun e=>by
  have:=(dt o1 e.symm).1
  omega
 have Cj:A.S<((w.drewN k).alloc o).heap.size:=by rw[World.size_alloc];exact Nat.lt_succ_of_lt bz
 have Gz:w1.heap[A.S]? =w.heap[A.S]? :=(fR.block _ Cj dH).trans (Below.heap_alloc _ _ _ bz)
 have eJ:((w.drewN k).alloc o).heap.size<=w1.heap.size:=fR.size
 have cz:=Gz.trans hb
 have Za:=Lb (.inl rfl) hr o1 fR xT
 have EE:eR A w1 (w1.setCell ⟨A.S,8,none⟩ v'):=⟨rfl,rfl,rfl,by simp,fun k hk=>eU _ _ _ _,fun k hk ht _=>Below.heap_setCell _ _ _ _ (fun e=>ht (.inr (.inl e)))⟩
 refine⟨Gz,ag cz rfl,aV cz,⟨h.ok,?_,⟨v',vr,by rw[aZ _ cz];rfl,fun _=>⟨?_,?_⟩⟩,fun _=> ?_⟩,eR.trans Za EE⟩
 ·exact Below.setCell (Below.grown (((show Below A.w0.heap.size A.w0 (w.drewN k) from⟨h.below.os,h.below.tape,h.below.output,h.below.size,h.below.block⟩)).alloc h.below.size o) fR (by rw[World.size_alloc];exact Nat.le_succ_of_le h.below.size) (fun k' hk=>by
   have:=(dt o1 hk).1
   have:=h.ok.lo
   omega)) h.ok.lo _
 ·have e1:(x.out++[t]).length=x.out.length+1:=by simp
  have e2:flat cw (x.out++[t])=flat cw x.out++cw t:=by rw[iJ];simp[flat]
  rw[e1,e2]
  exact ownsRow_setCell_below bo hS _
 ·refine ownsRow_setCell_below ?_ hS _
  refine ng o2 (fun k' hk=> ?_)
  obtain⟨g1,g2,g3⟩:=dt o2 hk
  refine(fR.block _ (by rw[World.size_alloc];exact Nat.lt_succ_of_lt g3) (fun e=> ?_)).trans (Below.heap_alloc _ _ _ g3)
  have:=(dt o1 e.symm).2.1
  rw[g2]at this
  exact absurd this (by decide)
 ·have:=h.size hr
  rw[World.size_alloc]at eJ
  have e:(w.drewN k).heap.size=w.heap.size:=rfl
  simp
  omega
theorem Ta{A:bG}{x:LI}{w:World}(h:bj A x w)(hr:A.rows=true)(he:x.ends=true)(hn:x.out.length<=8589934592):
 Calls Tryz.prog 26 #[.pointer (some ⟨A.S,0,none⟩)] w fun en w'=>en= .returned (.tuple #[])∧bj A {x with ends:=false,out:=x.out++[⟨4,⟨#[]⟩,0,x.line,0⟩]} w'∧eR A w w':=by
 obtain⟨vo,vr,hb,eO⟩:=h.jI
 obtain⟨o1,o2⟩:=eO hr
 have cN:=h.size hr
 have c2:w.cell? ⟨A.S,2,none⟩=some (.int .i64 x.line):=ag hb rfl
 have c4:w.cell? ⟨A.S,4,none⟩=some (.bool true):=by rw[←he];exact ag hb rfl
 have c8:w.cell? ⟨A.S,8,none⟩=some vo:=ag hb rfl
 have H:=fun k v' t o w1=>Gy (k:=k) (v':=v') (t:=t) (w1:=w1) (o:=o) h hr hb o1 o2
 have a8:∀o,(w.alloc o).cell? ⟨A.S,8,none⟩=some vo:=fun o=>by
  rw[World.cell?_of_block (w:=w) (a:=⟨A.S,8,none⟩) (Below.heap_alloc _ _ _ h.lt)];exact c8
 clear h hb eO
 go_enter Tryz.func26,Tryz.ntmps26
 go_wp2_with fail
 go_region_law (refine S_ (k:=1) (t:=⟨4,⟨#[]⟩,0,x.line,0⟩) o1 cN (by omega) (by rfl) _ _ (by rfl) (by rfl) (by rfl) ?_;intro v1 w1 l8 fR xT;obtain⟨gg,cap,rfl⟩:=nH l8;obtain⟨q1,q2,q3,q4,q5⟩:=H _ _ _ _ _ l8 fR xT)
 all_goals
  rename_i hk
  refine hk _ _ ?_
  clear hk
  generalize w1.setCell _ _=w2 at q4 q5⊢
  obtain⟨vo2,vr2,fm,_⟩:=q4.jI
  have d4:w2.cell? ⟨A.S,4,none⟩=some (.bool x.ends):=ag fm rfl
  have g4:w2.frozen? ⟨A.S,4,none⟩=false:=aV fm
  clear o1 o2 c2 c4 c8 a8 H
  go_wp2_with fail
  exact⟨rfl,_,tU (by kernel_rfl),rfl,eB q4 (o:=4) (fun _ _=>rfl) rfl rfl,eR.trans q5 (ig q4 _ _)⟩
def jg(O:U)(x:LI)(cls kind:Int)(kO:Nat):LI:=
 {x with
  first:=if(kO:Int)≠x.stop then x.out.length else x.first
  out:=x.out++[⟨cls,O.extract kO x.pos.toNat,kind,x.line,(kO:Int)-x.start+1⟩]
  ends:=decide (cls=1)||decide (cls=2)||(decide (cls=3)&&c_ (O.extract kO x.pos.toNat))
  stop:=x.pos}
abbrev Ld:Code:=av Tryz.f27
abbrev ZK:Code:=bQ (ah 2 Ld)
structure PA(A:bG)(cls:Int)(txt:U)(a:Act):Prop where
 defers:a.defers=[]
 size:a.tmps.size=81
 t0:a.tmps[0]? =some (.pointer (some ⟨A.S,0,none⟩))
 t1:a.tmps[1]? =some (.int .i64 cls)
 t8:a.tmps[8]? =some (.string txt)
theorem PA.lit{A:bG}{cls:Int}{txt:U}{a:Act}(h:PA A cls txt a):∃x:Nat->Value,a={tmps:=#[.pointer (some ⟨A.S,0,none⟩),.int .i64 cls,x 2,x 3,x 4,x 5,x 6,x 7,.string txt,x 9,x 10,x 11,x 12,x 13,x 14,x 15,x 16,x 17,x 18,x 19,x 20,x 21,x 22,x 23,x 24,x 25,x 26,x 27,x 28,x 29,x 30,x 31,x 32,x 33,x 34,x 35,x 36,x 37,x 38,x 39,x 40,x 41,x 42,x 43,x 44,x 45,x 46,x 47,x 48,x 49,x 50,x 51,x 52,x 53,x 54,x 55,x 56,x 57,x 58,x 59,x 60,x 61,x 62,x 63,x 64,x 65,x 66,x 67,x 68,x 69,x 70,x 71,x 72,x 73,x 74,x 75,x 76,x 77,x 78,x 79,x 80],defers:=[]}:=by
 refine⟨fun i=>a.tmps.getD i undef,?_⟩
 obtain⟨t,d⟩:=a
 obtain⟨h1,h2,h3,h4,h5⟩:=h
 simp only at h1 h2 h3 h4 h5
 subst h1
 have e6:t.getD 0 undef= .pointer (some ⟨A.S,0,none⟩):=by rw[Array.getD_eq_getD_getElem?,h3];rfl
 have e7:t.getD 1 undef= .int .i64 cls:=by rw[Array.getD_eq_getD_getElem?,h4];rfl
 have e8:t.getD 8 undef= .string txt:=by rw[Array.getD_eq_getD_getElem?,h5];rfl
 have ht:=gx 81 t h2
 rw[←e6,←e7,←e8]
 exact congrArg (fun t=>({tmps:=t,defers:=[]}:Act)) ht
theorem Tb{A:bG}{x:LI}{w:World}(h:bj A x w)(hr:A.rows=true)(hn:x.out.length<=8589934592)(cls kind:Int)(kO p:Nat)
 (hp:x.pos=p)(h1:kO<=p)(h2:p<=A.O.size)(h3:0<=x.start)(h4:x.start<=8589934592){t4 t5 t6 t7 t9 t10 t11 t12 t13 t14 t15 t16 t17 t18 t19 t20 t21 t22 t23 t24 t25 t26 t27 t28 t29 t30 t31 t32 t33 t34 t35 t36 t37 t38 t39 t40 t41 t42 t43 t44 t45 t46 t47 t48 t49 t50 t51 t52 t53 t54 t55 t56 t57 t58 t59 t60 t61 t62 t63 t64 t65 t66 t67 t68 t69 t70 t71 t72 t73 t74 t75 t76 t77 t78 t79 t80:Value}{Q:Exit->Act->World->Prop}
 (hQ:∀a' w',PA A cls (A.O.extract kO p) a'->bj A {x with out:=x.out++[⟨cls,A.O.extract kO p,kind,x.line,(kO:Int)-x.start+1⟩]} w'->eR A w w'->Q .normal a' w'):
 ZK.wp Tryz.prog Q {tmps:=#[.pointer (some ⟨A.S,0,none⟩),.int .i64 cls,.int .i64 kind,.int .i64 kO,t4,t5,t6,t7,.string (A.O.extract kO p),t9,t10,t11,t12,t13,t14,t15,t16,t17,t18,t19,t20,t21,t22,t23,t24,t25,t26,t27,t28,t29,t30,t31,t32,t33,t34,t35,t36,t37,t38,t39,t40,t41,t42,t43,t44,t45,t46,t47,t48,t49,t50,t51,t52,t53,t54,t55,t56,t57,t58,t59,t60,t61,t62,t63,t64,t65,t66,t67,t68,t69,t70,t71,t72,t73,t74,t75,t76,t77,t78,t79,t80],defers:=[]} w:=by
 have eJ:=h.ok.n1
 have e3:IntKind.i64.wrap ((kO:Int)-x.start)=(kO:Int)-x.start:=aG (by omega) (by omega)
 have e4:IntKind.i64.wrap ((kO:Int)-x.start+1)=(kO:Int)-x.start+1:=aG (by omega) (by omega)
 obtain⟨vo,vr,hb,eO⟩:=h.jI
 obtain⟨o1,o2⟩:=eO hr
 have cN:=h.size hr
 have c2:w.cell? ⟨A.S,2,none⟩=some (.int .i64 x.line):=ag hb rfl
 have c3:w.cell? ⟨A.S,3,none⟩=some (.int .i64 x.start):=ag hb rfl
 have c8:w.cell? ⟨A.S,8,none⟩=some vo:=ag hb rfl
 have H:=fun k v' t o w1=>Gy (k:=k) (v':=v') (t:=t) (w1:=w1) (o:=o) h hr hb o1 o2
 have a8:∀o,(w.alloc o).cell? ⟨A.S,8,none⟩=some vo:=fun o=>by
  rw[World.cell?_of_block (w:=w) (a:=⟨A.S,8,none⟩) (Below.heap_alloc _ _ _ h.lt)];exact c8
 clear h hb eO
 simp only[ZK,bQ,Ld,av,Tryz.f27,Option.getD,ah,cO,Option.map,Nat.beq,cond]
 refine wp_region_noPanic ?_
 go_region_law (refine S_ (k:=1) (t:=⟨cls,A.O.extract kO p,kind,x.line,(kO:Int)-x.start+1⟩) o1 cN (by omega) (by rfl) _ _ (by rfl) (by rfl) (by rfl) ?_;intro v1 w1 l8 fR xT;obtain⟨gg,cap,rfl⟩:=nH l8;obtain⟨q1,q2,q3,q4,q5⟩:=H _ _ _ _ _ l8 fR xT)
 all_goals exact hQ _ _ ⟨rfl,rfl,rfl,rfl,rfl⟩ q4 q5
theorem pC{A:bG}{x:LI}{w:World}(h:bj A x w)(hr:A.rows=true)(hn:x.out.length<=8589934592)(cls kind:Int)(kO p:Nat)(hc:cls=0∨cls=1∨cls=2∨cls=3∨cls=4)
 (hp:x.pos=p)(h1:kO<=p)(h2:p<=A.O.size)(h3:0<=x.start)(h4:x.start<=8589934592):
 Calls Tryz.prog 27 #[.pointer (some ⟨A.S,0,none⟩),.int .i64 cls,.int .i64 kind,.int .i64 kO] w fun en w'=>en= .returned (.tuple #[])∧bj A (jg A.O x cls kind kO) w'∧eR A w w':=by
 have eJ:=h.ok.n1
 have e1:((kO:Nat):Int).toNat=kO:=rfl
 have e2:((p:Nat):Int).toNat=p:=rfl
 have e3:IntKind.i64.wrap ((kO:Int)-x.start)=(kO:Int)-x.start:=aG (by omega) (by omega)
 have e4:IntKind.i64.wrap ((kO:Int)-x.start+1)=(kO:Int)-x.start+1:=aG (by omega) (by omega)
 by_cases ZL:(kO:Int)=x.stop
 ·obtain⟨vo,vr,hb,eO⟩:=h.jI
  have c0:w.cell? ⟨A.S,0,none⟩=some (.string A.O):=ag hb rfl
  have c1:w.cell? ⟨A.S,1,none⟩=some (.int .i64 p):=by rw[←hp];exact ag hb rfl
  have c5:w.cell? ⟨A.S,5,none⟩=some (.int .i64 kO):=by rw[ZL];exact ag hb rfl
  have Hfs:=Lib.hid ZL
  have Hh:=Lib.hid h
  clear hb eO h ZL
  go_enter Tryz.func27,Tryz.ntmps27
  go_wp2_with fail
  go_region_held3 (fun w'=>w'.cell? ⟨A.S,0,none⟩=some (.string A.O)∧w'.cell? ⟨A.S,1,none⟩=some (.int .i64 p)) (go_keep) (fail)
  go_split_ands
  go_wp2_with fail
  rename_i hk
  have h:=Hh.out
  refine Tb (x:=x) (h.kept dm) hr hn cls kind kO p hp h1 h2 h3 h4 (fun a' w' ha hi qn=> ?_)
  refine hk _ _ ?_
  clear hk
  obtain⟨y,rfl⟩:=ha.lit
  obtain⟨vo2,vr2,fm,_⟩:=hi.jI
  have d1:w'.cell? ⟨A.S,1,none⟩=some (.int .i64 p):=by rw[←hp];exact ag fm rfl
  have d4:w'.cell? ⟨A.S,4,none⟩=some (.bool x.ends):=ag fm rfl
  have d5:w'.cell? ⟨A.S,5,none⟩=some (.int .i64 x.stop):=ag fm rfl
  have g4:w'.frozen? ⟨A.S,4,none⟩=false:=aV fm
  have g5:w'.frozen? ⟨A.S,5,none⟩=false:=aV fm
  have hi5:=fun en=>eB (v:= .int .i64 p) (o:=5) (x':={x with out:=x.out++[⟨cls,A.O.extract kO p,kind,x.line,(kO:Int)-x.start+1⟩],ends:=en,stop:=x.pos}) (eB (v:= .bool en) (o:=4) (x':={x with out:=x.out++[⟨cls,A.O.extract kO p,kind,x.line,(kO:Int)-x.start+1⟩],ends:=en}) hi (fun _ _=>rfl) rfl rfl) (fun _ _=>by simp only[de,←hp];rfl) rfl rfl
  have XV:=fun en=>eR.trans (qn) (ig hi 4 (.bool en))
  have hf5:=fun en=>eR.trans (XV en) (ig (eB (v:= .bool en) (o:=4) (x':={x with out:=x.out++[⟨cls,A.O.extract kO p,kind,x.line,(kO:Int)-x.start+1⟩],ends:=en}) hi (fun _ _=>rfl) rfl rfl) 5 (.int .i64 p))
  clear hi fm
  rcases hc with rfl|rfl|rfl|rfl|rfl
  all_goals
   go_wp2_with fail
   try (go_region_held3 (fun w'=>w'.cell? ⟨A.S,4,none⟩=some (.bool x.ends)) (go_keep) ((go_at_call 33;refine(jR _ _).mono ?_;rintro en w' ⟨rfl,rfl⟩)))
  all_goals
   try go_wp2_with ((go_at_call 33;refine(jR _ _).mono ?_;rintro en w' ⟨rfl,rfl⟩))
  all_goals
   have ZL:=Hfs.out
   have h:=Hh.out
   refine⟨rfl,_,tU (by kernel_rfl),rfl,(congrArg (fun q=>bj A q _) ?_).mpr (hi5 _),eR.trans (hH w) (hf5 _)⟩
   simp[jg,hp,ZL]
 ·obtain⟨vo,vr,hb,eO⟩:=h.jI
  have c0:w.cell? ⟨A.S,0,none⟩=some (.string A.O):=ag hb rfl
  have c1:w.cell? ⟨A.S,1,none⟩=some (.int .i64 p):=by rw[←hp];exact ag hb rfl
  have c5:w.cell? ⟨A.S,5,none⟩=some (.int .i64 x.stop):=ag hb rfl
  have c6:w.cell? ⟨A.S,6,none⟩=some (.int .i64 x.first):=ag hb rfl
  have f6:w.frozen? ⟨A.S,6,none⟩=false:=aV hb
  have c8:w.cell? ⟨A.S,8,none⟩=some vo:=ag hb rfl
  obtain⟨pp,cc,rfl⟩:=jE (eO hr).1
  have Hfs:=Lib.hid ZL
  have Hh:=Lib.hid h
  clear hb eO h
  go_enter Tryz.func27,Tryz.ntmps27
  go_wp2_with fail
  go_region_held3 (fun w'=>w'.cell? ⟨A.S,0,none⟩=some (.string A.O)∧w'.cell? ⟨A.S,1,none⟩=some (.int .i64 p)) (go_keep) (fail)
  go_split_ands
  go_wp2_with fail
  rename_i hk
  have h:=Hh.out
  refine Tb (x:={x with first:=x.out.length}) (eB (v:= .int .i64 x.out.length) (o:=6) (x':={x with first:=x.out.length}) (h.kept dm) (fun _ _=>rfl) rfl rfl) hr hn cls kind kO p hp h1 h2 h3 h4 (fun a' w' ha hi qn=> ?_)
  refine hk _ _ ?_
  clear hk
  obtain⟨y,rfl⟩:=ha.lit
  obtain⟨vo2,vr2,fm,_⟩:=hi.jI
  have d1:w'.cell? ⟨A.S,1,none⟩=some (.int .i64 p):=by rw[←hp];exact ag fm rfl
  have d4:w'.cell? ⟨A.S,4,none⟩=some (.bool x.ends):=ag fm rfl
  have d5:w'.cell? ⟨A.S,5,none⟩=some (.int .i64 x.stop):=ag fm rfl
  have g4:w'.frozen? ⟨A.S,4,none⟩=false:=aV fm
  have g5:w'.frozen? ⟨A.S,5,none⟩=false:=aV fm
  have hi5:=fun en=>eB (v:= .int .i64 p) (o:=5) (x':={x with first:=x.out.length,out:=x.out++[⟨cls,A.O.extract kO p,kind,x.line,(kO:Int)-x.start+1⟩],ends:=en,stop:=x.pos}) (eB (v:= .bool en) (o:=4) (x':={x with first:=x.out.length,out:=x.out++[⟨cls,A.O.extract kO p,kind,x.line,(kO:Int)-x.start+1⟩],ends:=en}) hi (fun _ _=>rfl) rfl rfl) (fun _ _=>by simp only[de,←hp];rfl) rfl rfl
  have XV:=fun en=>eR.trans (qn) (ig hi 4 (.bool en))
  have hf5:=fun en=>eR.trans (XV en) (ig (eB (v:= .bool en) (o:=4) (x':={x with first:=x.out.length,out:=x.out++[⟨cls,A.O.extract kO p,kind,x.line,(kO:Int)-x.start+1⟩],ends:=en}) hi (fun _ _=>rfl) rfl rfl) 5 (.int .i64 p))
  clear hi fm
  rcases hc with rfl|rfl|rfl|rfl|rfl
  all_goals
   go_wp2_with fail
   try (go_region_held3 (fun w'=>w'.cell? ⟨A.S,4,none⟩=some (.bool x.ends)) (go_keep) ((go_at_call 33;refine(jR _ _).mono ?_;rintro en w' ⟨rfl,rfl⟩)))
  all_goals
   try go_wp2_with ((go_at_call 33;refine(jR _ _).mono ?_;rintro en w' ⟨rfl,rfl⟩))
  all_goals
   have ZL:=Hfs.out
   have h:=Hh.out
   refine⟨rfl,_,tU (by kernel_rfl),rfl,(congrArg (fun q=>bj A q _) ?_).mpr (hi5 _),eR.trans (eR.trans (hH w) (ig (h.kept dm) 6 (.int .i64 x.out.length))) (hf5 _)⟩
   simp[jg,hp,ZL]
abbrev eC:SV:= .val (.tuple #[])
theorem At.det{Y:Ev.Sys}(qo:∀st,¬Y.eM st){N:Nat}{π:Type}{F:π->E Y}{gb:π->af (Ex×E Y)}(I:π->Prop)(μ:π->Nat)(out:π->Ex×E Y){id:Nat}{b:Code}(hB:At Y N b F gb)
 (h:∀p,I p->(gb p).aD fun xe=>(xe.1= .normal∧∃p',xe.2=F p'∧μ p'<μ p∧I p'∧out p'=out p)∨(xe.1≠ .normal∧iq id xe=out p)):
 At Y N (.block id (.loop b)) F (fun p=> .aY (I p) (.ae (out p))):=by
 refine At.loop μ hB (fun p Q hs=> ?_) (fun p Q hb _=>(qo _ hb).elim)
 refine an (h p hs.1) (fun xe hx=> ?_)
 obtain⟨x,e⟩:=xe
 rcases hx with⟨h1,p',h2,h3,h4,h5⟩|⟨h1,h2⟩
 ·simp only at h1 h2
  subst h1
  exact⟨p',by rw[h2];exact fF.refl _,h3,h4,by rw[h5];exact hs.2⟩
 ·have hq:Q (out p):=hs.2
  rw[←h2]at hq
  cases x with
  |normal=>exact absurd rfl h1
  |exit i=>
   simp only[iq]at hq
   simp only
   by_cases hi:i=id
   ·rw[if_pos hi]at hq⊢
    exact⟨e,fF.refl _,hq⟩
   ·rw[if_neg hi]at hq⊢
    exact hq
  |goto l=>exact hq
  |ret=>exact hq
theorem rH{A:bG}(hA:A.Ok){f:FuncId}{fn:Func}(hf:Tryz.prog.funcs[f]? =some fn)(he:∀args w,(callFunc f args).run Tryz.prog w= .ok (.enter f args) w){C:eS (LY A)}(hC:C.Ok)
 {G:List SV->aq (LY A)->af (SV×aq (LY A))}(h:∀args c (Q:SV×aq (LY A)->Prop),(G args c).aD Q->(eh C fn args c).aD Q):(ej.mk f #[] true G:ej (LY A)).Ok:=by
 refine⟨he,fun args c bl w bS Q cK hc hs=> ?_,fun args c Q hb hs=>hb.elim⟩
 exact fM (qI A hA) hC (Y:=LY A) hf args c bl w bS _ cK hc (h args c Q hs)
theorem GA{A:bG}(hA:A.Ok){f:FuncId}{G:List SV->aq (LY A)->af (SV×aq (LY A))}
 (h:∀(args:List SV) (c:aq (LY A)) (bl:List Nat) (w:World) (bS:List Value) (Q:SV×aq (LY A)->Prop),oM (LY A) bl w args bS->bj A c.st w->(G args c).aD Q->
   ∃aO,Q (eC,⟨aO,c.bx⟩)∧Calls Tryz.prog f bS.toArray w fun e w'=>e= .returned (.tuple #[])∧bj A aO w'∧eR A w w'):fg (LY A) f #[] true G:=by
 intro args c bl w bS Q cK hc hs
 obtain⟨aO,hq,EM⟩:=h args c bl w bS Q cK hc.inv hs
 rw[Array.append_empty]
 refine EM.mono ?_
 rintro e w' ⟨rfl,hi,hf⟩
 have zT:∀b∈bl,w'.heap[b]? =w.heap[b]? :=fun b hb=>hf.bm b (hc.free b hb).2 (hc.free b hb).1 (by simp)
 refine .inl ⟨_,_,_,bl,hq,rfl,rfl,⟨hi,hc.len,hc.nd,fun i b u h1 h2=> ?_,fun b hb=> ?_⟩,⟨⟨hf.os,hf.tape,hf.output,hf.size,hf.ty,fun k h1 h2 h3=>hf.bm k h1 h2 (by simp)⟩,List.prefix_refl _,fun b hb=> .inl hb⟩,fun h=>by cases h⟩
 ·have hm:=List.mem_of_getElem? h1
  rw[World.cell?_of_block (w:=w) (w':=w') (a:=⟨b,0,none⟩) (zT b hm),World.frozen?_of_block (w:=w) (w':=w') (a:=⟨b,0,none⟩) (zT b hm)]
  exact hc.cell i b u h1 h2
 ·have:=hc.free b hb
  rw[hf.ty b this.2]
  exact⟨this.1,Nat.lt_of_lt_of_le this.2 hf.size⟩
theorem rI{A:bG}:∀st,¬(LY A).eM st:=fun _ h=>h
def v8(x:LI):LI:={x with ends:=false,out:=if x.ends=true then x.out++[⟨4,⟨#[]⟩,0,x.line,0⟩]else x.out}
theorem XW{A:bG}{x:LI}{w:World}(h:bj A x w)(he:x.ends=false):
 Calls Tryz.prog 26 #[.pointer (some ⟨A.S,0,none⟩)] w fun en w'=>en= .returned (.tuple #[])∧bj A {x with ends:=false} w'∧eR A w w':=by
 obtain⟨vo,vr,hb,eO⟩:=h.jI
 have c4:w.cell? ⟨A.S,4,none⟩=some (.bool false):=by rw[←he];exact ag hb rfl
 have f4:w.frozen? ⟨A.S,4,none⟩=false:=aV hb
 have H1:=eB (x':={x with ends:=false}) h (o:=4) (v:= .bool false) (fun _ _=>rfl) rfl rfl
 have H2:=ig h 4 (.bool false)
 clear h hb eO
 go_enter Tryz.func26,Tryz.ntmps26
 go_wp2_with fail
 exact⟨rfl,_,tU (by kernel_rfl),rfl,H1,H2⟩
def Tc(A:bG)(args:List SV)(c:aq (LY A)):af (SV×aq (LY A)):=
 match args with
 |[.st 0]=> .aY (A.rows=true∧c.st.out.length<=8589934592) (.ae (eC,⟨v8 c.st,c.bx⟩))
 |_=> .fail
def ZM(A:bG):ej (LY A):=⟨26,#[],true,Tc A⟩
theorem GB(A:bG)(hA:A.Ok):(ZM A).Ok:=by
 refine⟨fun args w=>by kernel_rfl,GA hA (fun args c bl w bS Q cK hi hs=> ?_),fun args c Q hb hs=>hb.elim⟩
 replace hs:(Tc A args c).aD Q:=hs
 unfold Tc at hs
 split at hs
 ·cases cK with
  |cons h1 t=>
  cases t
  obtain rfl:_=Value.pointer (some ⟨A.S,0,none⟩):=h1
  obtain⟨⟨hr,hn⟩,hq⟩:=hs
  refine⟨_,hq,?_⟩
  show Calls Tryz.prog 26 _ w _
  by_cases he:c.st.ends=true
  ·have:=Ta hi hr he hn
   simpa[v8,he] using this
  ·have he:c.st.ends=false:=by simpa using he
   have:=XW hi he
   simpa[v8,he] using this
 ·exact hs.elim
def acm(A:bG)(args:List SV)(c:aq (LY A)):af (SV×aq (LY A)):=
 match args with
 |[.st 0,.val (.int .i64 cls),.val (.int .i64 kind),.val (.int .i64 f)]=>
  .aY (A.rows=true∧c.st.out.length<=8589934592∧(cls=0∨cls=1∨cls=2∨cls=3∨cls=4)∧0<=f∧f<=c.st.pos∧c.st.pos<=A.O.size∧0<=c.st.start∧c.st.start<=8589934592) (.ae (eC,⟨jg A.O c.st cls kind f.toNat,c.bx⟩))
 |_=> .fail
def afD(A:bG):ej (LY A):=⟨27,#[],true,acm A⟩
theorem XX(A:bG)(hA:A.Ok):(afD A).Ok:=by
 refine⟨fun args w=>by kernel_rfl,GA hA (fun args c bl w bS Q cK hi hs=> ?_),fun args c Q hb hs=>hb.elim⟩
 replace hs:(acm A args c).aD Q:=hs
 unfold acm at hs
 split at hs
 ·rename_i cls kind f
  cases cK with
  |cons h1 t=>
  cases t with
  |cons h2 t=>
  cases t with
  |cons h3 t=>
  cases t with
  |cons h4 t=>
  cases t
  obtain rfl:_=Value.pointer (some ⟨A.S,0,none⟩):=h1
  obtain rfl:_=Value.int .i64 cls:=h2
  obtain rfl:_=Value.int .i64 kind:=h3
  obtain rfl:_=Value.int .i64 f:=h4
  obtain⟨⟨hr,hn,hc,h0,h1,h2,h3,h4⟩,hq⟩:=hs
  refine⟨_,hq,?_⟩
  have e1:((f.toNat:Nat):Int)=f:=Int.toNat_of_nonneg h0
  have e2:((c.st.pos.toNat:Nat):Int)=c.st.pos:=Int.toNat_of_nonneg (by omega)
  have:=pC hi hr hn cls kind f.toNat c.st.pos.toNat hc e2.symm (by omega) (by omega) h3 h4
  rw[e1]at this
  exact this
 ·exact hs.elim
def ZN(A:bG)(args:List SV)(c:aq (LY A)):af (SV×aq (LY A)):=
 match args with
 |[.st 0,.val (.int .i64 p)]=> .aY (0<=p) (.ae (.val (.tuple #[.int .i32 (ba A.O p.toNat),.int .i64 (aN A.O p.toNat)]),⟨{c.st with ai:=if ca A.O p.toNat=true then 1 else c.st.ai},c.bx⟩))
 |_=> .fail
def ZO(A:bG)(x:LI)(bx:List Value)(p:Int)(d1 d2:Nat):af (SV×aq (LY A)):=
 let yes:SV×aq (LY A):=(.val (.tuple #[.int .i32 d1,.int .i64 d2]),⟨{x with ai:=1},bx⟩)
 let no:SV×aq (LY A):=(.val (.tuple #[.int .i32 d1,.int .i64 d2]),⟨x,bx⟩)
 let tl:af (SV×aq (LY A)):= .aj ((d1:Int)==0) (.ae yes) (.aj ((d1:Int)==65279) (.aj (decide (p>0)) (.ae yes) (.ae no)) (.ae no))
 .aj ((d1:Int)==65533) (.aj ((d2:Int)==1) (.ae yes) tl) tl
theorem XY(A:bG)(x:LI)(bx:List Value)(p:Int):eh (xh A (K_ A) Tryz.f36.ntmps [] 0) Tryz.f36 [.st 0,.val (.int .i64 p)] ⟨x,bx⟩=
 (.aj (decide (p>=(A.O.size:Int)))
   (.ae (.val (.tuple #[.int .i32 (-1),.int .i64 0]),⟨x,bx⟩))
   (.aY (0<=p∧p<=(A.O.size:Int)) (.aY True (ZO A x bx p (Lib.decodeGo (A.O.extract p.toNat A.O.size)).1 (Lib.decodeGo (A.O.extract p.toNat A.O.size)).2)))):=by kernel_rfl
def ZP(A:bG):ej (LY A):=⟨36,#[],true,ZN A⟩
theorem Td(A:bG)(hA:A.Ok):(ZP A).Ok:=by
 refine rH hA Tryz.func36 (fun args w=>by kernel_rfl) (iD A (zt A hA) Tryz.f36.ntmps [] 0) (fun args c Q h=> ?_)
 unfold ZN at h
 split at h
 ·rename_i p
  obtain⟨x,bx⟩:=c
  obtain⟨h0,hq⟩:=h
  have e1:((p.toNat:Nat):Int)=p:=Int.toNat_of_nonneg h0
  refine bB (XY A x bx p) ⟨fun h1=> ?_,fun h1=>⟨⟨h0,by have:=of_decide_eq_false h1;omega⟩,trivial,?_⟩⟩
  ·have h2:¬p.toNat<A.O.size:=by have:=of_decide_eq_true h1;omega
   have q1:ba A.O p.toNat= -1:=by simp[ba,h2]
   have q2:aN A.O p.toNat=0:=by simp[aN,h2]
   have q3:ca A.O p.toNat=false:=by simp[ca,h2]
   rw[q1,q2,q3]at hq
   exact hq
  ·have h2:p.toNat<A.O.size:=by have:=of_decide_eq_false h1;omega
   have q1:ba A.O p.toNat=((Utf8.decode A.O p.toNat).1:Int):=by simp[ba,h2]
   have q2:aN A.O p.toNat=(Utf8.decode A.O p.toNat).2:=by simp[aN,h2]
   have q3:ca A.O p.toNat=(((((Utf8.decode A.O p.toNat).1:Int)==65533)&&(((Utf8.decode A.O p.toNat).2:Int)==1))||(((Utf8.decode A.O p.toNat).1:Int)==0)||((((Utf8.decode A.O p.toNat).1:Int)==65279)&&decide (p>0))):=by
    have g:∀(a b:Nat),decide (a=b)=(((a:Int))==((b:Nat):Int)):=fun a b=>by
     by_cases h:a=b
     ·subst h;simp
     ·have:¬((a:Int)=b):=by omega
      simp[h,this]
    have g2:decide (0<p.toNat)=decide (p>0):=by
     by_cases h:p>0
     ·have:0<p.toNat:=by omega
      simp[h,this]
     ·have:¬0<p.toNat:=by omega
      simp[h,this]
    unfold ca
    rw[decide_eq_true h2,g,g,g,g,g2]
    rfl
   rw[Lib.decodeGo_extract _ _ h2]
   rw[q1,q2,q3]at hq
   unfold ZO
   generalize(Utf8.decode A.O p.toNat).1=d1 at hq⊢
   generalize(Utf8.decode A.O p.toNat).2=d2 at hq⊢
   generalize((d1:Int)==65533)=b1 at hq⊢
   generalize((d2:Int)==1)=b2 at hq⊢
   generalize((d1:Int)==0)=b3 at hq⊢
   generalize((d1:Int)==65279)=b4 at hq⊢
   generalize(decide (p>0))=b5 at hq⊢
   cases b1<;>cases b2<;>cases b3<;>cases b4<;>cases b5<;>simp[af.aD]at hq⊢ <;>exact hq
 ·exact h.elim
theorem nn{a b:Nat}(h:(((a:Nat):Int)==((b:Nat):Int))=true):a=b:=by
 have:(a:Int)=b:=by simpa using h
 omega
theorem js{a b:Nat}(h:(((a:Nat):Int)==((b:Nat):Int))=false):¬a=b:=by
 have:¬(a:Int)=b:=by simpa using h
 omega
def me(O:U)(x:LI)(n:Int):LI:=if(O.get! x.pos.toNat).toNat=10 then{x with line:=x.line+1,start:=x.pos+1,pos:=x.pos+n}else{x with pos:=x.pos+n}
def stepG(A:bG)(args:List SV)(c:aq (LY A)):af (SV×aq (LY A)):=
 match args with
 |[.st 0,.val (.int .i64 n)]=> .aY (0<=c.st.pos∧c.st.pos<A.O.size∧0<=n∧n<=4∧0<=c.st.line∧c.st.line<=8589934592) (.ae (eC,⟨me A.O c.st n,c.bx⟩))
 |_=> .fail
theorem XZ(A:bG)(x:LI)(bx:List Value)(n:Int):eh (xh A (K_ A) Tryz.f35.ntmps [] 0) Tryz.f35 [.st 0,.val (.int .i64 n)] ⟨x,bx⟩=
 (.aY (0<=x.pos∧x.pos.toNat<A.O.size)
   (.aj (((A.O.get! x.pos.toNat).toNat:Int)==10)
     (.ae (eC,⟨{x with pos:=IntKind.i64.wrap (x.pos+n),line:=IntKind.i64.wrap (x.line+1),start:=IntKind.i64.wrap (x.pos+1)},bx⟩))
     (.ae (eC,⟨{x with pos:=IntKind.i64.wrap (x.pos+n)},bx⟩)))):=by kernel_rfl
def ZQ(A:bG):ej (LY A):=⟨35,#[],true,stepG A⟩
theorem Te(A:bG)(hA:A.Ok):(ZQ A).Ok:=by
 refine rH hA Tryz.func35 (fun args w=>by kernel_rfl) (iD A (zt A hA) Tryz.f35.ntmps [] 0) (fun args c Q h=> ?_)
 unfold stepG at h
 split at h
 ·rename_i n
  obtain⟨x,bx⟩:=c
  obtain⟨⟨h0,h1,h2,h3,h4,h5⟩,hq⟩:=h
  have hs:=hA.n1
  simp only at h0 h1 h4 h5
  have w1:IntKind.i64.wrap (x.pos+n)=x.pos+n:=aG (by omega) (by omega)
  have w2:IntKind.i64.wrap (x.pos+1)=x.pos+1:=aG (by omega) (by omega)
  have w3:IntKind.i64.wrap (x.line+1)=x.line+1:=aG (by omega) (by omega)
  refine bB (XZ A x bx n) ⟨⟨h0,by omega⟩,fun hb=> ?_,fun hb=> ?_⟩
  ·rw[w1,w2,w3]
   have:(A.O.get! x.pos.toNat).toNat=10:=nn hb
   simp only[me,this,if_true]at hq
   exact hq
  ·rw[w1]
   have:¬(A.O.get! x.pos.toNat).toNat=10:=js hb
   simp only[me,this,if_false]at hq
   exact hq
 ·exact h.elim
def f_(A:bG):List (Nat×ej (LY A)):=(26,ZM A)::(27,afD A)::(36,ZP A)::(35,ZQ A)::K_ A
theorem fE(A:bG)(hA:A.Ok):eI A (f_ A):=
 ((((zt A hA).cons (Te A hA) rfl rfl (fun h=>by cases h)).cons (Td A hA) rfl rfl (fun h=>by cases h)).cons (XX A hA) rfl rfl (fun h=>by cases h)).cons (GB A hA) rfl rfl (fun h=>by cases h)
structure Fit(O:U)(x:LS):Prop where
 le:x.p<=O.size
 line:x.line<=x.p+1
 st:x.st<=x.p
 stop:x.stop<=x.p
 fst:x.fst<=x.out.length
 out:x.out.length+(if x.ends=true then 1 else 0)<=2*x.p
 rem:x.rem.length<=x.p
theorem lF{s:U}{p:Nat}(h:p<s.size):1<=aN s p∧aN s p<=4∧p+aN s p<=s.size:=by
 unfold aN
 rw[if_pos h,←Lib.decodeGo_extract s p h]
 have h1:=Lib.decodeGo_le4 (s.extract p s.size)
 have h2:=Lib.decodeGo_le_size (s.extract p s.size)
 rw[aA _ _ _ (Nat.le_refl _)]at h2
 refine⟨?_,h1,by omega⟩
 rw[Lib.decodeGo_extract s p h]
 exact(gz s p).1
theorem Tf(s:U)(p:Nat):aN s p<=4:=by
 by_cases h:p<s.size
 ·exact(lF h).2.1
 ·simp[aN,h]
theorem Fit.char{s:U}{x:LS}(h:Fit s x)(p:Nat):Fit s (cB s p x):=by
 unfold cB
 split
 ·exact⟨h.1,h.2,h.3,h.4,h.5,h.6,h.7⟩
 ·exact h
theorem Fit.at{s:U}{x:LS}(h:Fit s x){e:Nat}(h1:x.p<=e)(h2:e<=s.size)(st:Nat):Fit s {x with p:=e,ai:=st}:=
 ⟨h2,Nat.le_trans h.line (Nat.succ_le_succ h1),Nat.le_trans h.st h1,Nat.le_trans h.stop h1,h.fst,Nat.le_trans h.out (Nat.mul_le_mul_left 2 h1),Nat.le_trans h.rem h1⟩
theorem Fit.step{s:U}{x:LS}(h:Fit s x){n:Nat}(h1:1<=n)(h2:x.p+n<=s.size):Fit s (br s x n):=by
 obtain⟨g1,g2,g3,g4,g5,g6,g7⟩:=h
 unfold br
 split
 ·exact⟨h2,by show x.line+1<=x.p+n+1;omega,by show x.p+1<=x.p+n;omega,by show x.stop<=x.p+n;omega,g5,by show _<=2*(x.p+n);exact Nat.le_trans g6 (by omega),Nat.le_trans g7 (Nat.le_add_right _ _)⟩
 ·exact⟨h2,by show x.line<=x.p+n+1;omega,by show x.st<=x.p+n;omega,by show x.stop<=x.p+n;omega,g5,by show _<=2*(x.p+n);exact Nat.le_trans g6 (by omega),Nat.le_trans g7 (Nat.le_add_right _ _)⟩
theorem Fit.lO{s:U}{x:LS}(h:Fit s x):Fit s (cY x):=by
 obtain⟨g1,g2,g3,g4,g5,g6,g7⟩:=h
 unfold cY
 cases he:x.ends with
 |true=>
  rw[he]at g6
  simp only[if_true]at g6
  exact⟨g1,g2,g3,g4,by simp;omega,by simp;omega,g7⟩
 |false=>
  rw[he]at g6
  exact⟨g1,g2,g3,g4,g5,g6,g7⟩
theorem Fit.put{s:U}{x:LS}(h:Fit s x){e:Nat}(h1:x.p<e)(h2:e<=s.size)(cls kind:Int)(f:Nat)(st:Nat):Fit s (dk s {x with p:=e,ai:=st} cls kind f):=by
 obtain⟨g1,g2,g3,g4,g5,g6,g7⟩:=h
 have g6':x.out.length<=2*x.p:=Nat.le_trans (Nat.le_add_right _ _) g6
 unfold dk
 refine⟨h2,by show x.line<=e+1;omega,by show x.st<=e;omega,Nat.le_refl _,?_,?_,Nat.le_trans g7 (Nat.le_of_lt h1)⟩
 ·simp only[List.length_append,List.length_cons,List.length_nil]
  split<;>omega
 ·simp only[List.length_append,List.length_cons,List.length_nil]
  split<;>omega
theorem qb(s:U)(x:LS)(n:Nat):me s x.bg n=(br s x n).bg:=by
 unfold me br
 show(if(s.get! x.p).toNat=10 then _ else _)=_
 split<;>rfl
theorem Oe(s:U)(x:LS)(p:Nat):({x.bg with ai:=if ca s p=true then 1 else x.bg.ai}:LI)=(cB s p x).bg:=by
 unfold cB
 split<;>rfl
theorem ke(s:U)(x:LS)(cls kind:Int)(f:Nat):jg s x.bg cls kind f=(dk s x cls kind f).bg:=by
 unfold jg dk
 have e1:((f:Int)≠x.bg.stop)↔f≠x.stop:=by
  show((f:Int)≠(x.stop:Int))↔_
  omega
 by_cases h:f≠x.stop
 ·rw[if_pos (e1.2 h)];simp only[if_pos h];rfl
 ·rw[if_neg (fun hh=>h (e1.1 hh))];simp only[if_neg h];rfl
def LI.dL(x:LI):LS:=⟨x.pos.toNat,x.line.toNat,x.start.toNat,x.ends,x.stop.toNat,x.first.toNat,x.ai.toNat,x.out,x.rem⟩
def X0(A:bG)(I:LS->Prop)(f:LS->LS)(args:List SV)(c:aq (LY A)):af (SV×aq (LY A)):=
 match args with
 |[.st 0]=> .aY (c.st=c.st.dL.bg∧Fit A.O c.st.dL∧I c.st.dL) (.ae (eC,⟨(f c.st.dL).bg,c.bx⟩))
 |_=> .fail
theorem uT{A:bG}{I:LS->Prop}{f:LS->LS}{args:List SV}{c:aq (LY A)}{Q:SV×aq (LY A)->Prop}(h:(X0 A I f args c).aD Q):∃X bx,args=[.st 0]∧c=⟨X.bg,bx⟩∧Fit A.O X∧I X∧Q (eC,⟨(f X).bg,bx⟩):=by
 unfold X0 at h
 split at h
 ·obtain⟨x,bx⟩:=c
  obtain⟨⟨h1,h2,h3⟩,hq⟩:=h
  refine⟨LI.dL x,bx,rfl,?_,h2,h3,hq⟩
  exact congrArg (fun y=>(⟨y,bx⟩:aq (LY A))) h1
 ·exact h.elim
abbrev Jv:Code:=a_ (aX (av Tryz.f37) 0)
def Jw(A:bG)(bx:List Value)(e:Nat)(x:LS):E (LY A):=⟨⟨x.bg,bx⟩,[(0,.st 0),(1,.val (.int .i64 e))]⟩
def ovT(A:bG)(bx:List Value)(x:LI)(n:Int):af (Ex×E (LY A)):=
 (.aj (x.ai==0)
   (.aj (decide (x.pos<n))
     (.aY (0<=x.pos)
       (.aY (0<=x.pos∧x.pos<A.O.size∧0<=(aN A.O x.pos.toNat:Int)∧(aN A.O x.pos.toNat:Int)<=4∧0<=x.line∧x.line<=8589934592)
         (.ae ((Ex.normal,E.mk (aq.mk (me A.O {x with ai:=if ca A.O x.pos.toNat=true then 1 else x.ai} (aN A.O x.pos.toNat)) bx) [(0,SV.st 0),(1,SV.val (Value.int IntKind.i64 n))])))))
     (.ae ((Ex.exit 0,E.mk (aq.mk x bx) [(0,SV.st 0),(1,SV.val (Value.int IntKind.i64 n))]))))
   (.ae ((Ex.exit 0,E.mk (aq.mk x bx) [(0,SV.st 0),(1,SV.val (Value.int IntKind.i64 n))]))))
theorem Tg(A:bG)(x:LI)(bx:List Value)(n:Int):(az (xh A (f_ A) Tryz.f37.ntmps [] 0) Jv ⟨⟨x,bx⟩,[(0,.st 0),(1,.val (.int .i64 n))]⟩).bind (fun xe=> .ae (xe.1,cU [0,1] xe.2))=ovT A bx x n:=by kernel_rfl
theorem Du(s:U)(p:Nat)(x:LS):(cB s p x).p=x.p∧(cB s p x).line=x.line:=by unfold cB;split<;>exact⟨rfl,rfl⟩
theorem xi(s:U)(x:LS)(n:Nat):(br s x n).p=x.p+n:=by unfold br;split<;>rfl
theorem GC(A:bG)(hA:A.Ok)(bx:List Value)(e:Nat)(he:e<=A.O.size):At (LY A) Tryz.f37.ntmps (.block 0 (.loop Jv)) (fun p:LS×Nat=>Jw A bx e p.1)
 (fun p=> .aY (Fit A.O p.1∧A.O.size<=p.1.p+p.2) (.ae (.normal,Jw A bx e (bV A.O e p.2 p.1)))):=by
 refine At.det rI (fun p:LS×Nat=>Fit A.O p.1∧A.O.size<=p.1.p+p.2) (fun p=>p.2) (fun p=>(.normal,Jw A bx e (bV A.O e p.2 p.1)))
  (At.same (C:=xh A (f_ A) Tryz.f37.ntmps [] 0) (qI A hA) (iD A (fE A hA) _ [] 0) (fun _=>[0,1]) (fun p=>Tg A p.1.bg bx e)) ?_
 rintro⟨x,n⟩ ⟨hf,hn⟩
 have hs:=hA.n1
 simp only at hf hn
 have hx:=hf.le
 have stop:¬(x.ai=0∧x.p<e)->bV A.O e n x=x:=fun h=>by
  cases n with
  |zero=>rfl
  |succ n=>unfold bV;rw[if_neg h]
 refine⟨fun h1=>⟨fun h2=> ?_,fun h2=> ?_⟩,fun h1=> ?_⟩
 ·have e1:x.ai=0:=by
   have h1:((x.ai:Int)==0)=true:=h1
   have:(x.ai:Int)=0:=by simpa using h1
   omega
  have e2:x.p<e:=by
   have:(x.p:Int)<e:=of_decide_eq_true h2
   omega
  have hp:x.p<A.O.size:=by omega
  obtain⟨w1,w2,w3⟩:=lF hp
  refine⟨Int.natCast_nonneg _,⟨Int.natCast_nonneg _,by show(x.p:Int)<_;omega,Int.natCast_nonneg _,?_,Int.natCast_nonneg _,?_⟩,.inl ⟨rfl,(br A.O (cB A.O x.p x) (aN A.O x.p),n-1),?_,?_,⟨?_,?_⟩,?_⟩⟩
  ·have:=Tf A.O x.p;show(aN A.O x.p:Int)<=4;omega
  ·show(x.line:Int)<=_;have:=hf.line;omega
  ·show(⟨⟨me A.O _ _,bx⟩,_⟩:E (LY A))=_
   rw[Oe]
   exact congrArg (fun y=>(⟨⟨y,bx⟩,[(0,.st 0),(1,.val (.int .i64 e))]⟩:E (LY A))) (qb _ _ _)
  ·show n-1<n;omega
  ·exact(hf.char _).step w1 (by rw[(Du _ _ _).1];exact w3)
  ·show A.O.size<=(br _ _ _).p+(n-1)
   rw[xi,(Du _ _ _).1]
   omega
  ·cases n with
   |zero=>omega
   |succ n=>
    show _=(Ex.normal,Jw A bx e (bV A.O e (n+1) x))
    rw[bV,if_pos ⟨e1,e2⟩]
    rfl
 ·refine .inr ⟨by simp,?_⟩
  show(_,_)=(Ex.normal,Jw A bx e (bV A.O e n x))
  rw[stop (fun h=>by have:¬(x.p:Int)<e:=of_decide_eq_false h2;omega)]
  rfl
 ·refine .inr ⟨by simp,?_⟩
  show(_,_)=(Ex.normal,Jw A bx e (bV A.O e n x))
  have h1:((x.ai:Int)==0)=false:=h1
  have h3:¬(x.ai:Int)=0:=by simpa using h1
  rw[stop (fun h=>h3 (by rw[h.1];rfl))]
  rfl
theorem Jx:(Tryz.f37).body=some (.block 0 (.loop Jv)):=by kernel_rfl
def Th(A:bG)(args:List SV)(c:aq (LY A)):af (SV×aq (LY A)):=
 match args with
 |[.st 0,.val (.int .i64 e)]=> .aY (c.st=c.st.dL.bg∧Fit A.O c.st.dL∧0<=e∧e<=A.O.size) (.ae (eC,⟨(bV A.O e.toNat A.O.size c.st.dL).bg,c.bx⟩))
 |_=> .fail
def afE(A:bG):ej (LY A):=⟨37,#[],true,Th A⟩
theorem Ti(A:bG)(hA:A.Ok):(afE A).Ok:=by
 refine⟨fun args w=>by kernel_rfl,?_,fun args c Q hb hs=>hb.elim⟩
 refine At.fn (Y:=LY A) Tryz.func37 Jx (N:=Tryz.f37.ntmps) rfl (π:=LS×List Value×{e:Nat // e<=A.O.size}) (arg:=fun p=>[.st 0,.val (.int .i64 (p.2.2.1:Nat))]) (core:=fun p=>⟨p.1.bg,p.2.1⟩) (fun _=>by show(_:Nat)<=_;exact(by decide:2<=Tryz.f37.ntmps))
  (g:=fun p=> .aY (Fit A.O p.1∧A.O.size<=p.1.p+A.O.size) (.ae (.normal,Jw A p.2.1 p.2.2.1 (bV A.O p.2.2.1 A.O.size p.1))))
  ⟨fun p=>(GC A hA p.2.1 p.2.2.1 p.2.2.2).wp (p.1,A.O.size),fun p=>(GC A hA p.2.1 p.2.2.1 p.2.2.2).mono (p.1,A.O.size)⟩ (fun args c Q h=> ?_)
 replace h:(Th A args c).aD Q:=h
 unfold Th at h
 split at h
 ·rename_i e
  obtain⟨x,bx⟩:=c
  obtain⟨⟨h1,h2,h3,h4⟩,hq⟩:=h
  have e1:((e.toNat:Nat):Int)=e:=Int.toNat_of_nonneg h3
  refine⟨(LI.dL x,bx,⟨e.toNat,by omega⟩),by show [_,SV.val (.int .i64 ((e.toNat:Nat):Int))]=_;rw[e1],congrArg (fun y=>(⟨y,bx⟩:aq (LY A))) h1.symm,⟨h2,by show _<=LS.p _+_;omega⟩,hq⟩
 ·exact h.elim
abbrev Jy:Code:=a_ (aX (av Tryz.f25) 0)
def stE(A:bG)(bx:List Value)(x:LS):E (LY A):=⟨⟨x.bg,bx⟩,[(0,.st 0)]⟩
def blT(A:bG)(bx:List Value)(x:LI):af (Ex×E (LY A)):=
 (.aj (decide (x.pos<(A.O.size:Int)))
   (.aY (0<=x.pos∧x.pos.toNat<A.O.size)
     (.aj (((A.O.get! x.pos.toNat).toNat:Int)==10)
       (.aY (A.rows=true∧x.out.length<=8589934592)
         (.aY (0<=(v8 x).pos∧(v8 x).pos<A.O.size∧(0:Int)<=1∧(1:Int)<=4∧0<=(v8 x).line∧(v8 x).line<=8589934592)
           (.ae ((Ex.normal,E.mk (aq.mk (me A.O (v8 x) 1) bx) [(0,SV.st 0)])))))
       (.aj (((A.O.get! x.pos.toNat).toNat:Int)==32)
         (.aY (0<=x.pos∧x.pos<A.O.size∧(0:Int)<=1∧(1:Int)<=4∧0<=x.line∧x.line<=8589934592)
           (.ae ((Ex.normal,E.mk (aq.mk (me A.O x 1) bx) [(0,SV.st 0)]))))
         (.aj (((A.O.get! x.pos.toNat).toNat:Int)==9)
           (.aY (0<=x.pos∧x.pos<A.O.size∧(0:Int)<=1∧(1:Int)<=4∧0<=x.line∧x.line<=8589934592)
             (.ae ((Ex.normal,E.mk (aq.mk (me A.O x 1) bx) [(0,SV.st 0)]))))
           (.aj (((A.O.get! x.pos.toNat).toNat:Int)==13)
             (.aY (0<=x.pos∧x.pos<A.O.size∧(0:Int)<=1∧(1:Int)<=4∧0<=x.line∧x.line<=8589934592)
               (.ae ((Ex.normal,E.mk (aq.mk (me A.O x 1) bx) [(0,SV.st 0)]))))
             (.ae ((Ex.ret,E.mk (aq.mk x bx) [(0,SV.st 0)]))))))))
   (.ae ((Ex.exit 0,E.mk (aq.mk x bx) [(0,SV.st 0)]))))
theorem Of(A:bG)(x:LI)(bx:List Value):(az (xh A (f_ A) Tryz.f25.ntmps [] 0) Jy ⟨⟨x,bx⟩,[(0,.st 0)]⟩).bind (fun xe=> .ae (xe.1,cU [0] xe.2))=blT A bx x:=by kernel_rfl
theorem Og{s:U}{x:LS}{n:Nat}(hp:x.p<s.size)(hb:(s.get! x.p).toNat=32∨(s.get! x.p).toNat=9∨(s.get! x.p).toNat=13):bU s (n+1) x=bU s n (br s x 1):=by
 rw[bU,if_pos hp,if_neg (by omega),if_pos hb]
theorem BS(A:bG)(hA:A.Ok)(hr:A.rows=true)(bx:List Value):At (LY A) Tryz.f25.ntmps (.block 0 (.loop Jy)) (fun p:LS×Nat=>stE A bx p.1)
 (fun p=> .aY (Fit A.O p.1∧A.O.size<=p.1.p+p.2) (.ae (if(bU A.O p.2 p.1).p<A.O.size then .ret else .normal,stE A bx (bU A.O p.2 p.1)))):=by
 refine At.det rI (fun p:LS×Nat=>Fit A.O p.1∧A.O.size<=p.1.p+p.2) (fun p=>p.2) (fun p=>(if(bU A.O p.2 p.1).p<A.O.size then .ret else .normal,stE A bx (bU A.O p.2 p.1)))
  (At.same (C:=xh A (f_ A) Tryz.f25.ntmps [] 0) (qI A hA) (iD A (fE A hA) _ [] 0) (fun _=>[0]) (fun p=>Of A p.1.bg bx)) ?_
 rintro⟨x,n⟩ ⟨hf,hn⟩
 have hs:=hA.n1
 simp only at hf hn
 have hx:=hf.le
 have ho:x.out.length<=8589934592:=by
  have:=hf.out
  have:=Nat.le_add_right x.out.length (if x.ends=true then 1 else 0)
  omega
 have hl:(x.line:Int)<=8589934592:=by have:=hf.line;omega
 have stop:¬(x.p<A.O.size)->bU A.O n x=x:=fun h=>by
  cases n with
  |zero=>rfl
  |succ n=>unfold bU;rw[if_neg h]
 have ws:x.p<A.O.size->((A.O.get! x.p).toNat=32∨(A.O.get! x.p).toNat=9∨(A.O.get! x.p).toNat=13)->
  ∃p':LS×Nat,(⟨⟨me A.O x.bg 1,bx⟩,[(0,.st 0)]⟩:E (LY A))=stE A bx p'.1∧p'.2<n∧(Fit A.O p'.1∧A.O.size<=p'.1.p+p'.2)∧
   ((if(bU A.O p'.2 p'.1).p<A.O.size then Ex.ret else Ex.normal),stE A bx (bU A.O p'.2 p'.1))=((if(bU A.O n x).p<A.O.size then Ex.ret else Ex.normal),stE A bx (bU A.O n x)):=fun hp hb=>by
  refine⟨(br A.O x 1,n-1),congrArg (fun y=>(⟨⟨y,bx⟩,[(0,.st 0)]⟩:E (LY A))) (qb _ _ 1),by show n-1<n;omega,⟨hf.step (Nat.le_refl _) (by omega),?_⟩,?_⟩
  ·show A.O.size<=(br _ _ _).p+(n-1)
   rw[xi]
   omega
  ·cases n with
   |zero=>omega
   |succ n=>rw[Og hp hb];rfl
 refine⟨fun h1=> ?_,fun h1=> ?_⟩
 ·have hp:x.p<A.O.size:=by
   have:(x.p:Int)<A.O.size:=of_decide_eq_true h1
   omega
  have hn0:n≠0:=by omega
  refine⟨⟨Int.natCast_nonneg _,hp⟩,fun h2=>⟨⟨hr,ho⟩,⟨Int.natCast_nonneg _,by show(x.p:Int)<_;omega,by omega,by omega,Int.natCast_nonneg _,hl⟩,.inl ⟨rfl,(br A.O (cY x) 1,n-1),?_,?_,⟨?_,?_⟩,?_⟩⟩,fun h2=>
   ⟨fun h3=>⟨⟨Int.natCast_nonneg _,by show(x.p:Int)<_;omega,by omega,by omega,Int.natCast_nonneg _,hl⟩,.inl ⟨rfl,ws hp (.inl (nn h3))⟩⟩,fun h3=>
    ⟨fun h4=>⟨⟨Int.natCast_nonneg _,by show(x.p:Int)<_;omega,by omega,by omega,Int.natCast_nonneg _,hl⟩,.inl ⟨rfl,ws hp (.inr (.inl (nn h4)))⟩⟩,fun h4=>
     ⟨fun h5=>⟨⟨Int.natCast_nonneg _,by show(x.p:Int)<_;omega,by omega,by omega,Int.natCast_nonneg _,hl⟩,.inl ⟨rfl,ws hp (.inr (.inr (nn h5)))⟩⟩,fun h5=> .inr ⟨by simp,?_⟩⟩⟩⟩⟩
  ·exact congrArg (fun y=>(⟨⟨y,bx⟩,[(0,.st 0)]⟩:E (LY A))) (qb _ (cY x) 1)
  ·show n-1<n;omega
  ·exact hf.lO.step (Nat.le_refl _) (by show x.p+1<=_;omega)
  ·show A.O.size<=(br _ _ _).p+(n-1)
   rw[xi]
   show A.O.size<=x.p+1+(n-1)
   omega
  ·cases n with
   |zero=>exact absurd rfl hn0
   |succ n=>
    have e:bU A.O (n+1) x=bU A.O n (br A.O (cY x) 1):=by rw[bU,if_pos hp,if_pos (show(A.O.get! x.p).toNat=10 from nn h2)]
    simp only[e]
    rfl
  ·have g2:¬(A.O.get! x.p).toNat=10:=js h2
   have g3:¬(A.O.get! x.p).toNat=32:=js h3
   have g4:¬(A.O.get! x.p).toNat=9:=js h4
   have g5:¬(A.O.get! x.p).toNat=13:=js h5
   have e:bU A.O n x=x:=by
    cases n with
    |zero=>rfl
    |succ n=>
     unfold bU
     rw[if_pos hp,if_neg g2,if_neg (fun h=>h.elim g3 (fun h=>h.elim g4 g5))]
   simp only[e,if_pos hp]
   rfl
 ·have hp:¬x.p<A.O.size:=fun h=>by
   have:¬(x.p:Int)<A.O.size:=of_decide_eq_false h1
   omega
  refine .inr ⟨by simp,?_⟩
  simp only[stop hp,if_neg hp]
  rfl
theorem GD:(Tryz.f25).body=some (.block 0 (.loop Jy)):=by kernel_rfl
def aco(A:bG):ej (LY A):=⟨25,#[],true,X0 A (fun _=>A.rows=true) (bU A.O A.O.size)⟩
theorem Oh(A:bG)(hA:A.Ok):(aco A).Ok:=by
 by_cases hr:A.rows=true
 ·refine⟨fun args w=>by kernel_rfl,?_,fun args c Q hb hs=>hb.elim⟩
  refine At.fn (Y:=LY A) Tryz.func25 GD (N:=Tryz.f25.ntmps) rfl (π:=LS×List Value) (arg:=fun _=>[.st 0]) (core:=fun p=>⟨p.1.bg,p.2⟩) (fun _=>by decide)
   (g:=fun p=> .aY (Fit A.O p.1∧A.O.size<=p.1.p+A.O.size) (.ae (if(bU A.O A.O.size p.1).p<A.O.size then .ret else .normal,stE A p.2 (bU A.O A.O.size p.1))))
   ⟨fun p=>(BS A hA hr p.2).wp (p.1,A.O.size),fun p=>(BS A hA hr p.2).mono (p.1,A.O.size)⟩ (fun args c Q h=> ?_)
  obtain⟨X,bx,rfl,rfl,hf,_,hq⟩:=uT (show(X0 A (fun _=>A.rows=true) (bU A.O A.O.size) args c).aD Q from h)
  refine⟨(X,bx),rfl,rfl,⟨hf,by show _<=X.p+_;omega⟩,?_⟩
  show(kR _ (if _ then _ else _,_)).aD Q
  split
  ·exact hq
  ·exact hq
 ·refine⟨fun args w=>by kernel_rfl,fun args c bl w bS Q _ _ h=> ?_,fun args c Q hb hs=>hb.elim⟩
  obtain⟨_,_,_,_,_,h,_⟩:=uT (show(X0 A (fun _=>A.rows=true) (bU A.O A.O.size) args c).aD Q from h)
  exact absurd h hr
def wC{A:bG}(ks:List Nat)(p:LI×List Value×List SV):E (LY A):=⟨⟨p.1,p.2.1⟩,(0,.st 0)::ks.zip p.2.2⟩
def eK{A:bG}(ks:List Nat)(e:E (LY A)):Option (LI×List Value×List SV):=match Ev.look e.tm 0 with
 | .st 0=>some (e.c.st,e.c.bx,ks.map (Ev.look e.tm))
 |_=>none
theorem kf{A:bG}(ks:List Nat)(e:E (LY A))(p:LI×List Value×List SV)(h:eK ks e=some p):fF e (wC ks p):=by
 unfold eK at h
 split at h
 ·rename_i h0
  simp only[Option.some.injEq]at h
  subst h
  refine⟨rfl,fun i=> ?_⟩
  have hl:Ev.look (wC ks (e.c.st,e.c.bx,ks.map (Ev.look e.tm)):E (LY A)).tm i=if i=0 then .st 0 else Ev.look (ks.zip (ks.map (Ev.look e.tm))) i:=aF _ _ _ _
  have key:∀l:List Nat,Ev.look (l.zip (l.map (Ev.look e.tm))) i= .jk∨Ev.look (l.zip (l.map (Ev.look e.tm))) i=Ev.look e.tm i:=by
   intro l
   induction l with
   |nil=>exact .inl rfl
   |cons k l ih=>
    simp only[List.map_cons,List.zip_cons_cons]
    rw[aF]
    by_cases hk:i=k
    ·rw[if_pos hk,hk];exact .inr rfl
    ·rw[if_neg hk];exact ih
  rw[hl]
  by_cases hi:i=0
  ·rw[if_pos hi,hi];exact .inr (.inl h0.symm)
  ·rw[if_neg hi]
   rcases key ks with h|h
   ·exact .inl h
   ·exact .inr (.inl h)
 ·cases h
abbrev xj:Code:=a_ (aX (av Tryz.f39) 0)
def ail(A:bG)(bx:List Value)(x:LI)(f:Int)(d1 d2:Nat):af (Ex×E (LY A)):=
 (.aj (decide (x.pos<(A.O.size:Int)))
   (.aY (0<=x.pos∧x.pos<=(A.O.size:Int))
     (.aY (True)
       (.aY (-2147483648<=(d1:Int)∧(d1:Int)<=2147483647)
         (.aj (!iO d1)
           (.aY (-2147483648<=(d1:Int)∧(d1:Int)<=2147483647)
             (.aj (!Lib.isDigitU d1)
               (.ae ((Ex.exit 0,E.mk (aq.mk x bx) [(0,SV.st 0),(2,SV.val (Value.int IntKind.i64 f))])))
               (.ae ((Ex.normal,E.mk (aq.mk {x with pos:=IntKind.i64.wrap (x.pos+d2)} bx) [(0,SV.st 0),(2,SV.val (Value.int IntKind.i64 f))])))))
           (.ae ((Ex.normal,E.mk (aq.mk {x with pos:=IntKind.i64.wrap (x.pos+d2)} bx) [(0,SV.st 0),(2,SV.val (Value.int IntKind.i64 f))])))))))
   (.ae ((Ex.exit 0,E.mk (aq.mk x bx) [(0,SV.st 0),(2,SV.val (Value.int IntKind.i64 f))]))))
theorem Tj(A:bG)(x:LI)(bx:List Value)(f:Int):(az (xh A (f_ A) Tryz.f39.ntmps [] 0) xj ⟨⟨x,bx⟩,[(0,.st 0),(2,.val (.int .i64 f))]⟩).bind (fun xe=> .ae (xe.1,cU [0,2] xe.2))=
 ail A bx x f (Lib.decodeGo (A.O.extract x.pos.toNat A.O.size)).1 (Lib.decodeGo (A.O.extract x.pos.toNat A.O.size)).2:=by kernel_rfl
def zu(A:bG)(bx:List Value)(f:Int)(x:LS):E (LY A):=⟨⟨x.bg,bx⟩,[(0,.st 0),(2,.val (.int .i64 f))]⟩
theorem rJ(s:U)(p:Nat): -2147483648<=(((Utf8.decode s p).1:Nat):Int)∧(((Utf8.decode s p).1:Nat):Int)<=2147483647:=by
 have:=Lib.rune_le s p
 omega
theorem Tl(A:bG)(hA:A.Ok)(bx:List Value)(f:Int):At (LY A) Tryz.f39.ntmps (.block 0 (.loop xj)) (fun p:LS×Nat=>zu A bx f p.1)
 (fun p=> .aY (Fit A.O p.1∧A.O.size<=p.1.p+p.2) (.ae (.normal,zu A bx f {p.1 with p:=bW A.O p.2 p.1.p}))):=by
 refine At.det rI (fun p:LS×Nat=>Fit A.O p.1∧A.O.size<=p.1.p+p.2) (fun p=>p.2) (fun p=>(.normal,zu A bx f {p.1 with p:=bW A.O p.2 p.1.p}))
  (At.same (C:=xh A (f_ A) Tryz.f39.ntmps [] 0) (qI A hA) (iD A (fE A hA) _ [] 0) (fun _=>[0,2]) (fun p=>Tj A p.1.bg bx f)) ?_
 rintro⟨x,n⟩ ⟨hf,hn⟩
 have hs:=hA.n1
 simp only at hf hn
 have hx:=hf.le
 have step:x.p<A.O.size->ko (Utf8.decode A.O x.p).1=true->∃p':LS×Nat,(⟨⟨{x.bg with pos:=IntKind.i64.wrap ((x.p:Int)+(Utf8.decode A.O x.p).2)},bx⟩,[(0,.st 0),(2,.val (.int .i64 f))]⟩:E (LY A))=zu A bx f p'.1∧p'.2<n∧(Fit A.O p'.1∧A.O.size<=p'.1.p+p'.2)∧
  ((Ex.normal,zu A bx f {p'.1 with p:=bW A.O p'.2 p'.1.p}):Ex×E (LY A))=(Ex.normal,zu A bx f {x with p:=bW A.O n x.p}):=fun hp hid=>by
  have e2:(Utf8.decode A.O x.p).2=aN A.O x.p:=by simp[aN,hp]
  obtain⟨w1,w2,w3⟩:=lF hp
  rw[e2]
  have ew:IntKind.i64.wrap ((x.p:Int)+(aN A.O x.p:Nat))=((x.p+aN A.O x.p:Nat):Int):=aG (by omega) (by omega)
  rw[ew]
  refine⟨({x with p:=x.p+aN A.O x.p},n-1),rfl,by show n-1<n;omega,⟨hf.at (Nat.le_add_right _ _) w3 x.ai,by show _<=x.p+aN A.O x.p+(n-1);omega⟩,?_⟩
  cases n with
  |zero=>omega
  |succ n=>
   have e:bW A.O (n+1) x.p=bW A.O n (x.p+aN A.O x.p):=by rw[bW,if_pos hp,if_pos hid,e2]
   rw[e]
   rfl
 refine⟨fun h1=> ?_,fun h1=> ?_⟩
 ·have hp:x.p<A.O.size:=by
   have:(x.p:Int)<A.O.size:=of_decide_eq_true h1
   omega
  show(af.aY (0<=(x.p:Int)∧(x.p:Int)<=(A.O.size:Int)) _).aD _
  have hd:Lib.decodeGo (A.O.extract x.bg.pos.toNat A.O.size)=Utf8.decode A.O x.p:=Lib.decodeGo_extract A.O x.p hp
  rw[hd]
  refine⟨⟨Int.natCast_nonneg _,by omega⟩,trivial,rJ _ _,fun h2=>⟨rJ _ _,fun h3=> ?_,fun h3=> ?_⟩,fun h2=> ?_⟩
  ·refine .inr ⟨by simp,?_⟩
   have e:bW A.O n x.p=x.p:=by
    cases n with
    |zero=>rfl
    |succ n=>rw[bW,if_pos hp,if_neg (by simp only[ko];simp at h2 h3;simp[h2,h3])]
   show(_,_)=(Ex.normal,zu A bx f {x with p:=bW A.O n x.p})
   rw[e]
   rfl
  ·exact .inl ⟨rfl,step hp (by simp only[ko];simp at h3;simp[h3])⟩
  ·exact .inl ⟨rfl,step hp (by simp only[ko];simp at h2;simp[h2])⟩
 ·have hp:¬x.p<A.O.size:=fun h=>by
   have:¬(x.p:Int)<A.O.size:=of_decide_eq_false h1
   omega
  refine .inr ⟨by simp,?_⟩
  have e:bW A.O n x.p=x.p:=by
   cases n with
   |zero=>rfl
   |succ n=>rw[bW,if_neg hp]
  show(_,_)=(Ex.normal,zu A bx f {x with p:=bW A.O n x.p})
  rw[e]
  rfl
def Tm(A:bG)(p:LI×List Value×List SV):af (Ex×E (LY A)):=match p.2.2 with
 |[.val (.int .i64 f)]=> .aY (p.1=p.1.dL.bg∧Fit A.O p.1.dL) (.ae (.normal,zu A p.2.1 f {p.1.dL with p:=bW A.O A.O.size p.1.dL.p}))
 |_=> .fail
theorem Oi(A:bG)(hA:A.Ok):cy (LY A) Tryz.f39.ntmps 0 (.loop xj) (cx (eK [2]) (Tm A)):=by
 refine eW (F:=wC [2]) ⟨fun p bl a w Q hI hs=> ?_,fun p Q hb _=>hb.elim⟩ (kf [2])
 obtain⟨x,bx,vs⟩:=p
 unfold Tm at hs
 split at hs
 ·rename_i f heq
  obtain rfl:vs=_:=heq
  obtain⟨⟨h1,h2⟩,hq⟩:=hs
  simp only at h1 h2
  have gy:cL (LY A) Tryz.f39.ntmps (zu A bx f (LI.dL x)) bl a w:=by
   have e:(wC [2] (x,bx,[.val (.int .i64 f)]):E (LY A))=zu A bx f (LI.dL x):=by
    show(⟨⟨x,bx⟩,_⟩:E (LY A))=⟨⟨(LI.dL x).bg,bx⟩,_⟩
    rw[←h1];rfl
   rw[←e];exact hI
  exact(Tl A hA bx f).wp (LI.dL x,A.O.size) bl a w Q gy ⟨⟨h2,by show _<=LS.p _+_;omega⟩,hq⟩
 ·exact hs.elim
def wfT(A:bG)(bx:List Value)(x y:LI):af (SV×aq (LY A)):=
 (.aY (0<=x.pos∧x.pos<=y.pos∧y.pos<=(A.O.size:Int))
   (.aY ((A.O.extract x.pos.toNat y.pos.toNat).size<=8589934592)
     (.aj (gY (A.O.extract x.pos.toNat y.pos.toNat))
       (.aY (A.rows=true∧x.out.length<=8589934592∧((3:Int)=0∨(3:Int)=1∨(3:Int)=2∨(3:Int)=3∨(3:Int)=4)∧0<=x.pos∧x.pos<=y.pos∧y.pos<=(A.O.size:Int)∧0<=y.start∧y.start<=8589934592)
         (.ae ((eC,aq.mk (jg A.O y 3 0 x.pos.toNat) bx))))
       (.aY (A.rows=true∧x.out.length<=8589934592∧((1:Int)=0∨(1:Int)=1∨(1:Int)=2∨(1:Int)=3∨(1:Int)=4)∧0<=x.pos∧x.pos<=y.pos∧y.pos<=(A.O.size:Int)∧0<=y.start∧y.start<=8589934592)
         (.ae ((eC,aq.mk (jg A.O y 1 0 x.pos.toNat) bx)))))))
theorem Tn(A:bG)(X:LS)(bx:List Value):eh (xh A (f_ A) Tryz.f39.ntmps [(0,cx (eK [2]) (Tm A))] 0) Tryz.f39 [.st 0] ⟨X.bg,bx⟩=
 .aY (cy (LY A) Tryz.f39.ntmps 0 (.loop xj) (cx (eK [2]) (Tm A))) (.aY (X.bg=X.bg.dL.bg∧Fit A.O X.bg.dL) (wfT A bx X.bg (LS.bg {X with p:=bW A.O A.O.size X.p}))):=by kernel_rfl
theorem Fit.len{s:U}{x:LS}(h:Fit s x)(hs:s.size<=2147483647):x.out.length<=8589934592∧(0:Int)<=x.st∧(x.st:Int)<=8589934592∧(0:Int)<=x.p∧(x.p:Int)<=s.size∧(0:Int)<=x.line∧(x.line:Int)<=8589934592:=by
 obtain⟨g1,g2,g3,g4,g5,g6,g7⟩:=h
 have:=Nat.le_add_right x.out.length (if x.ends=true then 1 else 0)
 refine⟨by omega,by omega,by omega,by omega,by omega,by omega,by omega⟩
theorem hU{s:U}(hs:s.size<=2147483647)(a b:Nat):(s.extract a b).size<=2147483647:=by
 rw[ByteArray.size_extract]
 omega
def Le(s:U)(x:LS):LS:=dk s {x with p:=bW s s.size x.p} (if gY (s.extract x.p (bW s s.size x.p))=true then 3 else 1) 0 x.p
theorem zv{s:U}:∀(n p:Nat),p<=s.size->p<=bW s n p∧bW s n p<=s.size
 |0,p,h=>⟨Nat.le_refl _,h⟩
 |n+1,p,h=>by
  rw[bW]
  split
  ·rename_i hp
   split
   ·obtain⟨w1,w2,w3⟩:=lF hp
    have e2:(Utf8.decode s p).2=aN s p:=by simp[aN,hp]
    rw[e2]
    have:=zv n (p+aN s p) w3
    omega
   ·exact⟨Nat.le_refl _,h⟩
  ·exact⟨Nat.le_refl _,h⟩
def ZR(A:bG):ej (LY A):=⟨39,#[],true,X0 A (fun _=>A.rows=true) (Le A.O)⟩
theorem To(A:bG)(hA:A.Ok):(ZR A).Ok:=by
 refine rH hA Tryz.func39 (fun args w=>by kernel_rfl) (iD A (fE A hA) Tryz.f39.ntmps [(0,cx (eK [2]) (Tm A))] 0) (fun args c Q h=> ?_)
 obtain⟨X,bx,rfl,rfl,hf,hr,hq⟩:=uT h
 have hs:=hA.n1
 obtain⟨l1,l2,l3,l4,l5,l6,l7⟩:=hf.len hs
 obtain⟨g1,g2⟩:=zv (s:=A.O) A.O.size X.p hf.le
 have k1:(X.p:Int)<=(bW A.O A.O.size X.p:Nat):=by omega
 have k2:((bW A.O A.O.size X.p:Nat):Int)<=A.O.size:=by omega
 have hx:=hU hs X.p (bW A.O A.O.size X.p)
 rw[Tn]
 refine⟨Oi A hA,⟨rfl,hf⟩,⟨l4,k1,k2⟩,Nat.le_trans hx (by omega),fun h1=>⟨⟨hr,l1,by decide,l4,k1,k2,l2,l3⟩,?_⟩,fun h1=>⟨⟨hr,l1,by decide,l4,k1,k2,l2,l3⟩,?_⟩⟩
 ·have h1:gY (A.O.extract X.p (bW A.O A.O.size X.p))=true:=h1
  rw[Le,if_pos h1]at hq
  show Q (eC,⟨jg A.O (LS.bg _) 3 0 X.p,bx⟩)
  rw[ke]
  exact hq
 ·have h1:gY (A.O.extract X.p (bW A.O A.O.size X.p))=false:=h1
  have h1:¬gY (A.O.extract X.p (bW A.O A.O.size X.p))=true:=by simp[h1]
  rw[Le,if_neg h1]at hq
  show Q (eC,⟨jg A.O (LS.bg _) 1 0 X.p,bx⟩)
  rw[ke]
  exact hq
end
end Sc
end Go.Proofs.YtogkcphobhhbdaaGreatDoor
