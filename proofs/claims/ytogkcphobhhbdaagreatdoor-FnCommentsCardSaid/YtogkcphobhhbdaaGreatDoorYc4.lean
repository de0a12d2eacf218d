/- The scanner of the program told as plain functions, part 4: texts joined and shortened by a program (wip/tools/mini.py). -/
import Derived.Test.YtogkcphobhhbdaaGreatDoorYc3
import Derived.Shelf.Lays7
import Derived.Shelf.Spec.DecodeRune
import Derived.Shelf.Strings.MapAny
set_option linter.unusedVariables false
set_option linter.unusedSimpArgs false
set_option maxHeartbeats 32000000
namespace Go.Proofs.YtogkcphobhhbdaaGreatDoor
open Go Go.RowKit Go.Lib
namespace Sc
set_option maxRecDepth 100000
noncomputable section
theorem aW{w:World}(o:Obj)(n:Nat):Below w.heap.size w ((w.alloc o).drewN n):=by
 have h:Below w.heap.size w (w.alloc o):=(Below.refl _ _).alloc (Nat.le_refl _) o
 exact⟨h.os,h.tape,h.output,h.size,h.block⟩
def dF(n:Nat)(w:World)(e:Ending)(w':World):Prop:=(∃r:Bool,e= .returned (.bool r)∧(n=0->r=false))∧Below w.heap.size w w'
theorem PM(b off cap:Nat)(x0:Nat)(w:World)(c0:w.cell? ⟨b,off,none⟩=some (.int .u8 x0))(hx:0<=(x0:Int))(AD:(x0:Int)<256)
 (cf:w.cell? ⟨7,x0,none⟩=some (.int .u8 2))(a0:w.cell? ⟨8,0,none⟩=some (.int .u8 128))(a1:w.cell? ⟨8,1,none⟩=some (.int .u8 191)):
 Calls Tryz.prog 85 #[.slice (some ⟨b,off,none⟩) 1 cap] w (dF 1 w):=by
 (go_enter Tryz.func85,Tryz.ntmps85;go_wp2_with fail;go_quiet (fail);go_wp2_with fail;go_ret;exact⟨⟨_,rfl,fun h=>absurd h (by decide)⟩,aW _ _⟩)
theorem L_(b off cap:Nat)(x0:Nat)(w:World)(c0:w.cell? ⟨b,off,none⟩=some (.int .u8 x0))(hx:0<=(x0:Int))(AD:(x0:Int)<256)
 (cf:w.cell? ⟨7,x0,none⟩=some (.int .u8 19))(a0:w.cell? ⟨8,2,none⟩=some (.int .u8 160))(a1:w.cell? ⟨8,3,none⟩=some (.int .u8 191)):
 Calls Tryz.prog 85 #[.slice (some ⟨b,off,none⟩) 1 cap] w (dF 1 w):=by
 (go_enter Tryz.func85,Tryz.ntmps85;go_wp2_with fail;go_quiet (fail);go_wp2_with fail;go_ret;exact⟨⟨_,rfl,fun h=>absurd h (by decide)⟩,aW _ _⟩)
theorem Ma(b off cap:Nat)(x0:Nat)(x1:Nat)(w:World)(c0:w.cell? ⟨b,off,none⟩=some (.int .u8 x0))(c1:w.cell? ⟨b,off+1,none⟩=some (.int .u8 x1))(hx:0<=(x0:Int))(AD:(x0:Int)<256)
 (cf:w.cell? ⟨7,x0,none⟩=some (.int .u8 19))(a0:w.cell? ⟨8,2,none⟩=some (.int .u8 160))(a1:w.cell? ⟨8,3,none⟩=some (.int .u8 191)):
 Calls Tryz.prog 85 #[.slice (some ⟨b,off,none⟩) 2 cap] w (dF 2 w):=by
 have d1:∀o,(w.alloc o).cell? ⟨b,off+1,none⟩=some (.int .u8 x1):=fun o=>by rw[World.cell?_alloc_lt _ _ _ (World.block_lt_of_cell? w _ c1)];exact c1
 rcases(by omega:((x1:Int)<160∧¬((191:Int)<x1))∨(¬((x1:Int)<160)∧¬((191:Int)<x1))∨(¬((x1:Int)<160)∧(191:Int)<x1))with⟨h1,h2⟩|⟨h1,h2⟩|⟨h1,h2⟩
 all_goals ((try have Y2:decide ((x1:Int)<160)=false:=by simpa using h1);(try have Y3:decide ((191:Int)<x1)=false:=by simpa using h2))
 all_goals (go_enter Tryz.func85,Tryz.ntmps85;go_wp2_with fail;go_quiet (fail);go_wp2_with fail;go_ret;exact⟨⟨_,rfl,fun h=>absurd h (by decide)⟩,aW _ _⟩)
theorem PN(b off cap:Nat)(x0:Nat)(w:World)(c0:w.cell? ⟨b,off,none⟩=some (.int .u8 x0))(hx:0<=(x0:Int))(AD:(x0:Int)<256)
 (cf:w.cell? ⟨7,x0,none⟩=some (.int .u8 3))(a0:w.cell? ⟨8,0,none⟩=some (.int .u8 128))(a1:w.cell? ⟨8,1,none⟩=some (.int .u8 191)):
 Calls Tryz.prog 85 #[.slice (some ⟨b,off,none⟩) 1 cap] w (dF 1 w):=by
 (go_enter Tryz.func85,Tryz.ntmps85;go_wp2_with fail;go_quiet (fail);go_wp2_with fail;go_ret;exact⟨⟨_,rfl,fun h=>absurd h (by decide)⟩,aW _ _⟩)
theorem PO(b off cap:Nat)(x0:Nat)(x1:Nat)(w:World)(c0:w.cell? ⟨b,off,none⟩=some (.int .u8 x0))(c1:w.cell? ⟨b,off+1,none⟩=some (.int .u8 x1))(hx:0<=(x0:Int))(AD:(x0:Int)<256)
 (cf:w.cell? ⟨7,x0,none⟩=some (.int .u8 3))(a0:w.cell? ⟨8,0,none⟩=some (.int .u8 128))(a1:w.cell? ⟨8,1,none⟩=some (.int .u8 191)):
 Calls Tryz.prog 85 #[.slice (some ⟨b,off,none⟩) 2 cap] w (dF 2 w):=by
 have d1:∀o,(w.alloc o).cell? ⟨b,off+1,none⟩=some (.int .u8 x1):=fun o=>by rw[World.cell?_alloc_lt _ _ _ (World.block_lt_of_cell? w _ c1)];exact c1
 rcases(by omega:((x1:Int)<128∧¬((191:Int)<x1))∨(¬((x1:Int)<128)∧¬((191:Int)<x1))∨(¬((x1:Int)<128)∧(191:Int)<x1))with⟨h1,h2⟩|⟨h1,h2⟩|⟨h1,h2⟩
 all_goals ((try have Y2:decide ((x1:Int)<128)=false:=by simpa using h1);(try have Y3:decide ((191:Int)<x1)=false:=by simpa using h2))
 all_goals (go_enter Tryz.func85,Tryz.ntmps85;go_wp2_with fail;go_quiet (fail);go_wp2_with fail;go_ret;exact⟨⟨_,rfl,fun h=>absurd h (by decide)⟩,aW _ _⟩)
theorem Mb(b off cap:Nat)(x0:Nat)(w:World)(c0:w.cell? ⟨b,off,none⟩=some (.int .u8 x0))(hx:0<=(x0:Int))(AD:(x0:Int)<256)
 (cf:w.cell? ⟨7,x0,none⟩=some (.int .u8 35))(a0:w.cell? ⟨8,4,none⟩=some (.int .u8 128))(a1:w.cell? ⟨8,5,none⟩=some (.int .u8 159)):
 Calls Tryz.prog 85 #[.slice (some ⟨b,off,none⟩) 1 cap] w (dF 1 w):=by
 (go_enter Tryz.func85,Tryz.ntmps85;go_wp2_with fail;go_quiet (fail);go_wp2_with fail;go_ret;exact⟨⟨_,rfl,fun h=>absurd h (by decide)⟩,aW _ _⟩)
theorem Mc(b off cap:Nat)(x0:Nat)(x1:Nat)(w:World)(c0:w.cell? ⟨b,off,none⟩=some (.int .u8 x0))(c1:w.cell? ⟨b,off+1,none⟩=some (.int .u8 x1))(hx:0<=(x0:Int))(AD:(x0:Int)<256)
 (cf:w.cell? ⟨7,x0,none⟩=some (.int .u8 35))(a0:w.cell? ⟨8,4,none⟩=some (.int .u8 128))(a1:w.cell? ⟨8,5,none⟩=some (.int .u8 159)):
 Calls Tryz.prog 85 #[.slice (some ⟨b,off,none⟩) 2 cap] w (dF 2 w):=by
 have d1:∀o,(w.alloc o).cell? ⟨b,off+1,none⟩=some (.int .u8 x1):=fun o=>by rw[World.cell?_alloc_lt _ _ _ (World.block_lt_of_cell? w _ c1)];exact c1
 rcases(by omega:((x1:Int)<128∧¬((159:Int)<x1))∨(¬((x1:Int)<128)∧¬((159:Int)<x1))∨(¬((x1:Int)<128)∧(159:Int)<x1))with⟨h1,h2⟩|⟨h1,h2⟩|⟨h1,h2⟩
 all_goals ((try have Y2:decide ((x1:Int)<128)=false:=by simpa using h1);(try have Y3:decide ((159:Int)<x1)=false:=by simpa using h2))
 all_goals (go_enter Tryz.func85,Tryz.ntmps85;go_wp2_with fail;go_quiet (fail);go_wp2_with fail;go_ret;exact⟨⟨_,rfl,fun h=>absurd h (by decide)⟩,aW _ _⟩)
theorem Md(b off cap:Nat)(x0:Nat)(w:World)(c0:w.cell? ⟨b,off,none⟩=some (.int .u8 x0))(hx:0<=(x0:Int))(AD:(x0:Int)<256)
 (cf:w.cell? ⟨7,x0,none⟩=some (.int .u8 52))(a0:w.cell? ⟨8,6,none⟩=some (.int .u8 144))(a1:w.cell? ⟨8,7,none⟩=some (.int .u8 191)):
 Calls Tryz.prog 85 #[.slice (some ⟨b,off,none⟩) 1 cap] w (dF 1 w):=by
 (go_enter Tryz.func85,Tryz.ntmps85;go_wp2_with fail;go_quiet (fail);go_wp2_with fail;go_ret;exact⟨⟨_,rfl,fun h=>absurd h (by decide)⟩,aW _ _⟩)
theorem Me(b off cap:Nat)(x0:Nat)(x1:Nat)(w:World)(c0:w.cell? ⟨b,off,none⟩=some (.int .u8 x0))(c1:w.cell? ⟨b,off+1,none⟩=some (.int .u8 x1))(hx:0<=(x0:Int))(AD:(x0:Int)<256)
 (cf:w.cell? ⟨7,x0,none⟩=some (.int .u8 52))(a0:w.cell? ⟨8,6,none⟩=some (.int .u8 144))(a1:w.cell? ⟨8,7,none⟩=some (.int .u8 191)):
 Calls Tryz.prog 85 #[.slice (some ⟨b,off,none⟩) 2 cap] w (dF 2 w):=by
 have d1:∀o,(w.alloc o).cell? ⟨b,off+1,none⟩=some (.int .u8 x1):=fun o=>by rw[World.cell?_alloc_lt _ _ _ (World.block_lt_of_cell? w _ c1)];exact c1
 rcases(by omega:((x1:Int)<144∧¬((191:Int)<x1))∨(¬((x1:Int)<144)∧¬((191:Int)<x1))∨(¬((x1:Int)<144)∧(191:Int)<x1))with⟨h1,h2⟩|⟨h1,h2⟩|⟨h1,h2⟩
 all_goals ((try have Y2:decide ((x1:Int)<144)=false:=by simpa using h1);(try have Y3:decide ((191:Int)<x1)=false:=by simpa using h2))
 all_goals (go_enter Tryz.func85,Tryz.ntmps85;go_wp2_with fail;go_quiet (fail);go_wp2_with fail;go_ret;exact⟨⟨_,rfl,fun h=>absurd h (by decide)⟩,aW _ _⟩)
theorem Mf(b off cap:Nat)(x0:Nat)(x1:Nat)(x2:Nat)(w:World)(c0:w.cell? ⟨b,off,none⟩=some (.int .u8 x0))(c1:w.cell? ⟨b,off+1,none⟩=some (.int .u8 x1))(c2:w.cell? ⟨b,off+2,none⟩=some (.int .u8 x2))(hx:0<=(x0:Int))(AD:(x0:Int)<256)
 (cf:w.cell? ⟨7,x0,none⟩=some (.int .u8 52))(a0:w.cell? ⟨8,6,none⟩=some (.int .u8 144))(a1:w.cell? ⟨8,7,none⟩=some (.int .u8 191)):
 Calls Tryz.prog 85 #[.slice (some ⟨b,off,none⟩) 3 cap] w (dF 3 w):=by
 have d1:∀o,(w.alloc o).cell? ⟨b,off+1,none⟩=some (.int .u8 x1):=fun o=>by rw[World.cell?_alloc_lt _ _ _ (World.block_lt_of_cell? w _ c1)];exact c1
 have d2:∀o,(w.alloc o).cell? ⟨b,off+2,none⟩=some (.int .u8 x2):=fun o=>by rw[World.cell?_alloc_lt _ _ _ (World.block_lt_of_cell? w _ c2)];exact c2
 rcases(by omega:((x1:Int)<144∧¬((191:Int)<x1))∨(¬((x1:Int)<144)∧¬((191:Int)<x1))∨(¬((x1:Int)<144)∧(191:Int)<x1))with⟨h1,h2⟩|⟨h1,h2⟩|⟨h1,h2⟩
 all_goals rcases(by omega:((x2:Int)<128∧¬((191:Int)<x2))∨(¬((x2:Int)<128)∧¬((191:Int)<x2))∨(¬((x2:Int)<128)∧(191:Int)<x2))with⟨g1,g2⟩|⟨g1,g2⟩|⟨g1,g2⟩
 all_goals ((try have Y2:decide ((x1:Int)<144)=false:=by simpa using h1);(try have Y3:decide ((191:Int)<x1)=false:=by simpa using h2);(try have dg1:decide ((x2:Int)<128)=false:=by simpa using g1);(try have dg2:decide ((191:Int)<x2)=false:=by simpa using g2))
 all_goals (go_enter Tryz.func85,Tryz.ntmps85;go_wp2_with fail;go_quiet (fail);go_wp2_with fail;go_ret;exact⟨⟨_,rfl,fun h=>absurd h (by decide)⟩,aW _ _⟩)
theorem PQ(b off cap:Nat)(x0:Nat)(w:World)(c0:w.cell? ⟨b,off,none⟩=some (.int .u8 x0))(hx:0<=(x0:Int))(AD:(x0:Int)<256)
 (cf:w.cell? ⟨7,x0,none⟩=some (.int .u8 4))(a0:w.cell? ⟨8,0,none⟩=some (.int .u8 128))(a1:w.cell? ⟨8,1,none⟩=some (.int .u8 191)):
 Calls Tryz.prog 85 #[.slice (some ⟨b,off,none⟩) 1 cap] w (dF 1 w):=by
 (go_enter Tryz.func85,Tryz.ntmps85;go_wp2_with fail;go_quiet (fail);go_wp2_with fail;go_ret;exact⟨⟨_,rfl,fun h=>absurd h (by decide)⟩,aW _ _⟩)
theorem PR(b off cap:Nat)(x0:Nat)(x1:Nat)(w:World)(c0:w.cell? ⟨b,off,none⟩=some (.int .u8 x0))(c1:w.cell? ⟨b,off+1,none⟩=some (.int .u8 x1))(hx:0<=(x0:Int))(AD:(x0:Int)<256)
 (cf:w.cell? ⟨7,x0,none⟩=some (.int .u8 4))(a0:w.cell? ⟨8,0,none⟩=some (.int .u8 128))(a1:w.cell? ⟨8,1,none⟩=some (.int .u8 191)):
 Calls Tryz.prog 85 #[.slice (some ⟨b,off,none⟩) 2 cap] w (dF 2 w):=by
 have d1:∀o,(w.alloc o).cell? ⟨b,off+1,none⟩=some (.int .u8 x1):=fun o=>by rw[World.cell?_alloc_lt _ _ _ (World.block_lt_of_cell? w _ c1)];exact c1
 rcases(by omega:((x1:Int)<128∧¬((191:Int)<x1))∨(¬((x1:Int)<128)∧¬((191:Int)<x1))∨(¬((x1:Int)<128)∧(191:Int)<x1))with⟨h1,h2⟩|⟨h1,h2⟩|⟨h1,h2⟩
 all_goals ((try have Y2:decide ((x1:Int)<128)=false:=by simpa using h1);(try have Y3:decide ((191:Int)<x1)=false:=by simpa using h2))
 all_goals (go_enter Tryz.func85,Tryz.ntmps85;go_wp2_with fail;go_quiet (fail);go_wp2_with fail;go_ret;exact⟨⟨_,rfl,fun h=>absurd h (by decide)⟩,aW _ _⟩)
theorem PS(b off cap:Nat)(x0:Nat)(x1:Nat)(x2:Nat)(w:World)(c0:w.cell? ⟨b,off,none⟩=some (.int .u8 x0))(c1:w.cell? ⟨b,off+1,none⟩=some (.int .u8 x1))(c2:w.cell? ⟨b,off+2,none⟩=some (.int .u8 x2))(hx:0<=(x0:Int))(AD:(x0:Int)<256)
 (cf:w.cell? ⟨7,x0,none⟩=some (.int .u8 4))(a0:w.cell? ⟨8,0,none⟩=some (.int .u8 128))(a1:w.cell? ⟨8,1,none⟩=some (.int .u8 191)):
 Calls Tryz.prog 85 #[.slice (some ⟨b,off,none⟩) 3 cap] w (dF 3 w):=by
 have d1:∀o,(w.alloc o).cell? ⟨b,off+1,none⟩=some (.int .u8 x1):=fun o=>by rw[World.cell?_alloc_lt _ _ _ (World.block_lt_of_cell? w _ c1)];exact c1
 have d2:∀o,(w.alloc o).cell? ⟨b,off+2,none⟩=some (.int .u8 x2):=fun o=>by rw[World.cell?_alloc_lt _ _ _ (World.block_lt_of_cell? w _ c2)];exact c2
 rcases(by omega:((x1:Int)<128∧¬((191:Int)<x1))∨(¬((x1:Int)<128)∧¬((191:Int)<x1))∨(¬((x1:Int)<128)∧(191:Int)<x1))with⟨h1,h2⟩|⟨h1,h2⟩|⟨h1,h2⟩
 all_goals rcases(by omega:((x2:Int)<128∧¬((191:Int)<x2))∨(¬((x2:Int)<128)∧¬((191:Int)<x2))∨(¬((x2:Int)<128)∧(191:Int)<x2))with⟨g1,g2⟩|⟨g1,g2⟩|⟨g1,g2⟩
 all_goals ((try have Y2:decide ((x1:Int)<128)=false:=by simpa using h1);(try have Y3:decide ((191:Int)<x1)=false:=by simpa using h2);(try have dg1:decide ((x2:Int)<128)=false:=by simpa using g1);(try have dg2:decide ((191:Int)<x2)=false:=by simpa using g2))
 all_goals (go_enter Tryz.func85,Tryz.ntmps85;go_wp2_with fail;go_quiet (fail);go_wp2_with fail;go_ret;exact⟨⟨_,rfl,fun h=>absurd h (by decide)⟩,aW _ _⟩)
theorem Mg(b off cap:Nat)(x0:Nat)(w:World)(c0:w.cell? ⟨b,off,none⟩=some (.int .u8 x0))(hx:0<=(x0:Int))(AD:(x0:Int)<256)
 (cf:w.cell? ⟨7,x0,none⟩=some (.int .u8 68))(a0:w.cell? ⟨8,8,none⟩=some (.int .u8 128))(a1:w.cell? ⟨8,9,none⟩=some (.int .u8 143)):
 Calls Tryz.prog 85 #[.slice (some ⟨b,off,none⟩) 1 cap] w (dF 1 w):=by
 (go_enter Tryz.func85,Tryz.ntmps85;go_wp2_with fail;go_quiet (fail);go_wp2_with fail;go_ret;exact⟨⟨_,rfl,fun h=>absurd h (by decide)⟩,aW _ _⟩)
theorem Mh(b off cap:Nat)(x0:Nat)(x1:Nat)(w:World)(c0:w.cell? ⟨b,off,none⟩=some (.int .u8 x0))(c1:w.cell? ⟨b,off+1,none⟩=some (.int .u8 x1))(hx:0<=(x0:Int))(AD:(x0:Int)<256)
 (cf:w.cell? ⟨7,x0,none⟩=some (.int .u8 68))(a0:w.cell? ⟨8,8,none⟩=some (.int .u8 128))(a1:w.cell? ⟨8,9,none⟩=some (.int .u8 143)):
 Calls Tryz.prog 85 #[.slice (some ⟨b,off,none⟩) 2 cap] w (dF 2 w):=by
 have d1:∀o,(w.alloc o).cell? ⟨b,off+1,none⟩=some (.int .u8 x1):=fun o=>by rw[World.cell?_alloc_lt _ _ _ (World.block_lt_of_cell? w _ c1)];exact c1
 rcases(by omega:((x1:Int)<128∧¬((143:Int)<x1))∨(¬((x1:Int)<128)∧¬((143:Int)<x1))∨(¬((x1:Int)<128)∧(143:Int)<x1))with⟨h1,h2⟩|⟨h1,h2⟩|⟨h1,h2⟩
 all_goals ((try have Y2:decide ((x1:Int)<128)=false:=by simpa using h1);(try have Y3:decide ((143:Int)<x1)=false:=by simpa using h2))
 all_goals (go_enter Tryz.func85,Tryz.ntmps85;go_wp2_with fail;go_quiet (fail);go_wp2_with fail;go_ret;exact⟨⟨_,rfl,fun h=>absurd h (by decide)⟩,aW _ _⟩)
theorem Mi(b off cap:Nat)(x0:Nat)(x1:Nat)(x2:Nat)(w:World)(c0:w.cell? ⟨b,off,none⟩=some (.int .u8 x0))(c1:w.cell? ⟨b,off+1,none⟩=some (.int .u8 x1))(c2:w.cell? ⟨b,off+2,none⟩=some (.int .u8 x2))(hx:0<=(x0:Int))(AD:(x0:Int)<256)
 (cf:w.cell? ⟨7,x0,none⟩=some (.int .u8 68))(a0:w.cell? ⟨8,8,none⟩=some (.int .u8 128))(a1:w.cell? ⟨8,9,none⟩=some (.int .u8 143)):
 Calls Tryz.prog 85 #[.slice (some ⟨b,off,none⟩) 3 cap] w (dF 3 w):=by
 have d1:∀o,(w.alloc o).cell? ⟨b,off+1,none⟩=some (.int .u8 x1):=fun o=>by rw[World.cell?_alloc_lt _ _ _ (World.block_lt_of_cell? w _ c1)];exact c1
 have d2:∀o,(w.alloc o).cell? ⟨b,off+2,none⟩=some (.int .u8 x2):=fun o=>by rw[World.cell?_alloc_lt _ _ _ (World.block_lt_of_cell? w _ c2)];exact c2
 rcases(by omega:((x1:Int)<128∧¬((143:Int)<x1))∨(¬((x1:Int)<128)∧¬((143:Int)<x1))∨(¬((x1:Int)<128)∧(143:Int)<x1))with⟨h1,h2⟩|⟨h1,h2⟩|⟨h1,h2⟩
 all_goals rcases(by omega:((x2:Int)<128∧¬((191:Int)<x2))∨(¬((x2:Int)<128)∧¬((191:Int)<x2))∨(¬((x2:Int)<128)∧(191:Int)<x2))with⟨g1,g2⟩|⟨g1,g2⟩|⟨g1,g2⟩
 all_goals ((try have Y2:decide ((x1:Int)<128)=false:=by simpa using h1);(try have Y3:decide ((143:Int)<x1)=false:=by simpa using h2);(try have dg1:decide ((x2:Int)<128)=false:=by simpa using g1);(try have dg2:decide ((191:Int)<x2)=false:=by simpa using g2))
 all_goals (go_enter Tryz.func85,Tryz.ntmps85;go_wp2_with fail;go_quiet (fail);go_wp2_with fail;go_ret;exact⟨⟨_,rfl,fun h=>absurd h (by decide)⟩,aW _ _⟩)
theorem xV(x:Int)(hx:x=240∨x=241)(n b off cap:Nat)(x0:Nat)(w:World)(c0:w.cell? ⟨b,off,none⟩=some (.int .u8 x0))(AD:(x0:Int)<256)
 (cf:w.cell? ⟨7,x0,none⟩=some (.int .u8 x))(J6:(0:Int)<(n:Int))(hn2:(1:Int)<=(n:Int))(hz:((n:Int)==0)=false):
 Calls Tryz.prog 85 #[.slice (some ⟨b,off,none⟩) n cap] w (dF n w):=by
 rcases hx with rfl|rfl
 all_goals (go_enter Tryz.func85,Tryz.ntmps85;go_wp2_with fail;go_ret;exact⟨⟨_,rfl,fun h=>by omega⟩,Below.refl _ _⟩)
theorem jv(x k:Int)(hx:(x=2∧k=2)∨(x=19∧k=3)∨(x=3∧k=3)∨(x=35∧k=3)∨(x=52∧k=4)∨(x=4∧k=4)∨(x=68∧k=4))(n b off cap:Nat)(x0:Nat)(w:World)(c0:w.cell? ⟨b,off,none⟩=some (.int .u8 x0))(AD:(x0:Int)<256)
 (cf:w.cell? ⟨7,x0,none⟩=some (.int .u8 x))(hk:k<=(n:Int))(J6:(0:Int)<(n:Int))(hz:((n:Int)==0)=false):
 Calls Tryz.prog 85 #[.slice (some ⟨b,off,none⟩) n cap] w (dF n w):=by
 rcases hx with⟨rfl,rfl⟩|⟨rfl,rfl⟩|⟨rfl,rfl⟩|⟨rfl,rfl⟩|⟨rfl,rfl⟩|⟨rfl,rfl⟩|⟨rfl,rfl⟩
 all_goals (go_enter Tryz.func85,Tryz.ntmps85;go_wp2_with fail;go_ret;exact⟨⟨_,rfl,fun h=>by omega⟩,Below.refl _ _⟩)
theorem Mj(A:Option Addr)(cap:Nat)(w:World):
 Calls Tryz.prog 85 #[.slice A 0 cap] w (dF 0 w):=by
 go_enter Tryz.func85,Tryz.ntmps85
 go_wp2
 go_ret
 exact⟨⟨_,rfl,fun _=>rfl⟩,Below.refl _ _⟩
theorem zV(s:U)(b off cap:Nat)(w:World)(hT:Lib.Utf8Tabs 7 8 w)
 (hp:∀j,j<s.size->w.cell? ⟨b,off+j,none⟩=some (.int .u8 (s.get! j).toNat)):
 Calls Tryz.prog 85 #[.slice (some ⟨b,off,none⟩) s.size cap] w (dF s.size w):=by
 by_cases h0:s.size=0
 ·rw[h0];exact Mj _ _ _
 ·have J6:(0:Int)<(s.size:Int):=by omega
  have c0:=hp 0 (by omega)
  simp only[Nat.add_zero]at c0
  have zM:(s.get! 0).toNat<256:=(s.get! 0).toNat_lt
  have cf:=hT.1 _ zM
  have hz:((s.size:Int)==0)=false:=beq_eq_false_iff_ne.2 (by omega)
  have acc:=hT.2
  rcases firstT_cases (s.get! 0).toNat with hx|hx|hx|hx|hx|hx|hx|hx|hx<;>rw[hx]at cf
  ·exact xV _ (.inl rfl) _ b off cap _ w c0 (by omega) cf J6 (by omega) hz
  ·exact xV _ (.inr rfl) _ b off cap _ w c0 (by omega) cf J6 (by omega) hz
  ·by_cases hk:(2:Int)<=(s.size:Int)
   ·exact jv _ 2 (by simp) _ b off cap _ w c0 (by omega) cf hk J6 hz
   ·have hs:s.size=1:=by omega
    rw[hs];exact PM b off cap _ w c0 (by omega) (by omega) cf (acc 0 (by decide)).1 (acc 0 (by decide)).2
  ·by_cases hk:(3:Int)<=(s.size:Int)
   ·exact jv _ 3 (by simp) _ b off cap _ w c0 (by omega) cf hk J6 hz
   ·have hs:s.size=1∨s.size=2:=by omega
    rcases hs with hs|hs
    ·rw[hs];exact L_ b off cap _ w c0 (by omega) (by omega) cf (acc 1 (by decide)).1 (acc 1 (by decide)).2
    ·rw[hs];exact Ma b off cap _ _ w c0 (hp 1 (by omega)) (by omega) (by omega) cf (acc 1 (by decide)).1 (acc 1 (by decide)).2
  ·by_cases hk:(3:Int)<=(s.size:Int)
   ·exact jv _ 3 (by simp) _ b off cap _ w c0 (by omega) cf hk J6 hz
   ·have hs:s.size=1∨s.size=2:=by omega
    rcases hs with hs|hs
    ·rw[hs];exact PN b off cap _ w c0 (by omega) (by omega) cf (acc 0 (by decide)).1 (acc 0 (by decide)).2
    ·rw[hs];exact PO b off cap _ _ w c0 (hp 1 (by omega)) (by omega) (by omega) cf (acc 0 (by decide)).1 (acc 0 (by decide)).2
  ·by_cases hk:(3:Int)<=(s.size:Int)
   ·exact jv _ 3 (by simp) _ b off cap _ w c0 (by omega) cf hk J6 hz
   ·have hs:s.size=1∨s.size=2:=by omega
    rcases hs with hs|hs
    ·rw[hs];exact Mb b off cap _ w c0 (by omega) (by omega) cf (acc 2 (by decide)).1 (acc 2 (by decide)).2
    ·rw[hs];exact Mc b off cap _ _ w c0 (hp 1 (by omega)) (by omega) (by omega) cf (acc 2 (by decide)).1 (acc 2 (by decide)).2
  ·by_cases hk:(4:Int)<=(s.size:Int)
   ·exact jv _ 4 (by simp) _ b off cap _ w c0 (by omega) cf hk J6 hz
   ·have hs:s.size=1∨s.size=2∨s.size=3:=by omega
    rcases hs with hs|hs|hs
    ·rw[hs];exact Md b off cap _ w c0 (by omega) (by omega) cf (acc 3 (by decide)).1 (acc 3 (by decide)).2
    ·rw[hs];exact Me b off cap _ _ w c0 (hp 1 (by omega)) (by omega) (by omega) cf (acc 3 (by decide)).1 (acc 3 (by decide)).2
    ·rw[hs];exact Mf b off cap _ _ _ w c0 (hp 1 (by omega)) (hp 2 (by omega)) (by omega) (by omega) cf (acc 3 (by decide)).1 (acc 3 (by decide)).2
  ·by_cases hk:(4:Int)<=(s.size:Int)
   ·exact jv _ 4 (by simp) _ b off cap _ w c0 (by omega) cf hk J6 hz
   ·have hs:s.size=1∨s.size=2∨s.size=3:=by omega
    rcases hs with hs|hs|hs
    ·rw[hs];exact PQ b off cap _ w c0 (by omega) (by omega) cf (acc 0 (by decide)).1 (acc 0 (by decide)).2
    ·rw[hs];exact PR b off cap _ _ w c0 (hp 1 (by omega)) (by omega) (by omega) cf (acc 0 (by decide)).1 (acc 0 (by decide)).2
    ·rw[hs];exact PS b off cap _ _ _ w c0 (hp 1 (by omega)) (hp 2 (by omega)) (by omega) (by omega) cf (acc 0 (by decide)).1 (acc 0 (by decide)).2
  ·by_cases hk:(4:Int)<=(s.size:Int)
   ·exact jv _ 4 (by simp) _ b off cap _ w c0 (by omega) cf hk J6 hz
   ·have hs:s.size=1∨s.size=2∨s.size=3:=by omega
    rcases hs with hs|hs|hs
    ·rw[hs];exact Mg b off cap _ w c0 (by omega) (by omega) cf (acc 4 (by decide)).1 (acc 4 (by decide)).2
    ·rw[hs];exact Mh b off cap _ _ w c0 (hp 1 (by omega)) (by omega) (by omega) cf (acc 4 (by decide)).1 (acc 4 (by decide)).2
    ·rw[hs];exact Mi b off cap _ _ _ w c0 (hp 1 (by omega)) (hp 2 (by omega)) (by omega) (by omega) cf (acc 4 (by decide)).1 (acc 4 (by decide)).2
end
end Sc
end Go.Proofs.YtogkcphobhhbdaaGreatDoor
namespace Go.Proofs
open Go.Shelf
noncomputable section
def Tryz.Cu:Go.Shelf.Ren:=⟨fun|32=>87|49=>109|n=>n,fun|30=>40|21=>21|3=>3|0=>0|5=>5|4=>4|33=>73|66=>110|25=>66|69=>134|68=>133|n=>n,fun|2=>7|3=>8|n=>n⟩
theorem Tryz.PT:Go.Proofs.Lays7.n32 Tryz.prog Tryz.Cu:={
 mixed:=by kernel_rfl
 f32:=Tryz.func87.trans (congrArg some (by kernel_rfl))
 f49:=Tryz.func109.trans (congrArg some (by kernel_rfl))
 t0:=Tryz.underlying0
 a0:=Tryz.isAgg0
 z0:=Tryz.sizeOf0
 v0:=Tryz.zeroValue0
 i0:=by kernel_rfl
 t3:=Tryz.underlying3
 a3:=Tryz.isAgg3
 z3:=Tryz.sizeOf3
 v3:=Tryz.zeroValue3
 i3:=by kernel_rfl
 t4:=Tryz.underlying4
 a4:=Tryz.isAgg4
 z4:=Tryz.sizeOf4
 v4:=Tryz.zeroValue4
 i4:=by kernel_rfl
 t5:=Tryz.underlying5
 a5:=Tryz.isAgg5
 z5:=Tryz.sizeOf5
 v5:=Tryz.zeroValue5
 i5:=by kernel_rfl
 t21:=Tryz.underlying21
 a21:=Tryz.isAgg21
 z21:=Tryz.sizeOf21
 v21:=Tryz.zeroValue21
 i21:=by kernel_rfl
 t25:=Tryz.underlying66
 a25:=Tryz.isAgg66
 z25:=Tryz.sizeOf66
 v25:=Tryz.zeroValue66
 i25:=by kernel_rfl
 t30:=Tryz.underlying40
 a30:=Tryz.isAgg40
 z30:=Tryz.sizeOf40
 v30:=Tryz.zeroValue40
 i30:=by kernel_rfl
 t33:=Tryz.underlying73
 a33:=Tryz.isAgg73
 z33:=Tryz.sizeOf73
 v33:=Tryz.zeroValue73
 i33:=by kernel_rfl
 t66:=Tryz.underlying110
 a66:=Tryz.isAgg110
 z66:=Tryz.sizeOf110
 t68:=Tryz.underlying133
 a68:=Tryz.isAgg133
 z68:=Tryz.sizeOf133
 v68:=Tryz.zeroValue133
 i68:=by kernel_rfl
 t69:=Tryz.underlying134
 a69:=Tryz.isAgg134
 z69:=Tryz.sizeOf134
 v69:=Tryz.zeroValue134
 i69:=by kernel_rfl
 g2:=by kernel_rfl
 g3:=by kernel_rfl}
open Go.RowKit Go.Lib in
theorem Tryz.utf8_DecodeRune(s:U)(b off cap:Nat)(w:World)(hT:Lib.Utf8Tabs 7 8 w)
 (hp:∀j,j<s.size->w.cell? ⟨b,off+j,none⟩=some (.int .u8 (s.get! j).toNat)):
 Calls Tryz.prog 87 #[.slice (some ⟨b,off,none⟩) s.size cap] w fun e w'=>e= .returned (.tuple #[.int .i32 (Lib.decodeGo s).1,.int .i64 (Lib.decodeGo s).2])∧Below w.heap.size w w':=Any7.utf8_DecodeRune Tryz.PT s b off cap w hT hp
end
end Go.Proofs
namespace Go.Proofs.YtogkcphobhhbdaaGreatDoor
open Go Go.RowKit
namespace Sc
open Ev
set_option maxRecDepth 100000
noncomputable section
theorem J7{A:Ad}{x:Raw}{w:World}(h:fa A x w):Lib.Utf8Tabs 7 8 w:=by
 have hs:=h.ok.jU.size
 obtain⟨h1,h2⟩:=h.ok.jU.Pn
 refine⟨fun i hi=> ?_,fun i hi=> ?_⟩
 ·rw[h.below.cell (by show 7<A.w0.heap.size;omega)];exact h1 i hi
 ·rw[h.below.cell (by show 8<A.w0.heap.size;omega),h.below.cell (by show 8<A.w0.heap.size;omega)];exact h2 i hi
def Eo(A:Ad)(args:List SV)(c:aq (RY A)):af (SV×aq (RY A)):=
 match args with
 |[.fG bs]=> .aj (Nat.beq bs.size 0) (.ae (.ff,c)) (.any (.ae (.tt,c)) (.ae (.ff,c)))
 |_=> .fail
theorem Mk(A:Ad):gT (Y:=RY A) (Eo A):=by
 intro args c Q hb h
 unfold Eo at h
 split at h
 ·rename_i bs
  cases hz:Nat.beq bs.size 0 with
  |true=>exact⟨_,h.1 hz,hb⟩
  |false=>exact⟨_,(h.2 hz).1,hb⟩
 ·exact h.elim
theorem Vc(A:Ad)(hA:A.Ok):fg (RY A) 85 #[] false (Eo A):=by
 intro args c bl w bS Q cK hc h
 unfold Eo at h
 split at h
 ·rename_i bs
  cases cK with
  |cons h1 hr=>
   cases hr
   have hI:fa A c.st w:=hc.inv
   obtain⟨o,cap,zO,rfl,cF⟩:=h1
   refine(zV bs A.buf o cap w (J7 hI) cF).mono ?_
   rintro e w' ⟨⟨r,rfl,hz⟩,hB⟩
   have hinv:fu (RY A) bl c w':=kW hc (hI.kept (kU hI hB)) hB
   have kk:∀m,w'.cell? ⟨(RY A).B,m,none⟩=w.cell? ⟨(RY A).B,m,none⟩:=fun m=>by
    have bz:=((kT A hA).lt hc.inv).2
    simp only[World.cell?,hB.block _ bz]
   cases hbz:Nat.beq bs.size 0 with
   |true=>
    have:=hz (Nat.eq_of_beq_eq_true hbz)
    subst this
    exact .inl ⟨_,_,_,bl,h.1 hbz,rfl,rfl,hinv,(kV hB bl).ext,fun _=>kk⟩
   |false=>
    obtain⟨h1,h2⟩:=h.2 hbz
    cases r with
    |true=>exact .inl ⟨_,_,_,bl,h1,rfl,rfl,hinv,(kV hB bl).ext,fun _=>kk⟩
    |false=>exact .inl ⟨_,_,_,bl,h2,rfl,rfl,hinv,(kV hB bl).ext,fun _=>kk⟩
 ·exact h.elim
def HZ(A:Ad)(args:List SV)(c:aq (RY A)):af (SV×aq (RY A)):=
 match args with
 |[.fG bs]=> .ae (.val (.tuple #[.int .i32 (Lib.decodeGo bs).1,.int .i64 (Lib.decodeGo bs).2]),c)
 |_=> .fail
theorem PU(A:Ad):gT (Y:=RY A) (HZ A):=by
 intro args c Q hb h
 unfold HZ at h
 split at h
 ·exact⟨_,h,hb⟩
 ·exact h.elim
theorem Ml(A:Ad)(args:List SV)(c:aq (RY A)):(HZ A args c).quiet c:=by
 unfold HZ
 split
 ·rfl
 ·trivial
theorem aal(A:Ad)(hA:A.Ok):fg (RY A) 87 #[] false (HZ A):=by
 intro args c bl w bS Q cK hc h
 unfold HZ at h
 split at h
 ·rename_i bs
  cases cK with
  |cons h1 hr=>
   cases hr
   have hI:fa A c.st w:=hc.inv
   obtain⟨o,cap,zO,rfl,cF⟩:=h1
   refine(Tryz.utf8_DecodeRune bs A.buf o cap w (J7 hI) cF).mono ?_
   rintro e w' ⟨rfl,hB⟩
   exact .inl ⟨_,c,_,bl,h,rfl,rfl,kW hc (hI.kept (kU hI hB)) hB,(kV hB bl).ext,fun _ m=>by
    have bz:=((kT A hA).lt hc.inv).2
    simp only[World.cell?,hB.block _ bz]⟩
 ·exact h.elim
def AE(A:Ad):ej (RY A):=⟨47,#[.pointer (some ⟨A.e,0,none⟩)],false,AB A⟩
theorem xW(A:Ad)(hA:A.Ok):(AE A).Ok:=⟨fun args w=>by kernel_rfl,U3 A hA,L7 A⟩
def H0(A:Ad)(N:Nat):eS (RY A):=⟨N,[],[(0,AE A)],[],[],[],0⟩
theorem sr(A:Ad)(hA:A.Ok)(N:Nat):(H0 A N).Ok where
 uf:=fun p hp=>by cases hp
 still:=fun p hp=>by cases hp
 fns:=fun p hp=>by
  obtain rfl:p=(0,AE A):=by simpa[H0] using hp
  exact⟨xW A hA,rfl⟩
 rX:=fun p hp=>by cases hp
def PV(A:Ad)(args:List SV)(c:aq (RY A)):af (SV×aq (RY A)):=
 match args with
 |[.st 0]=> .ae (.val (.tuple #[.int .u64 (u64 (1+c.st.aC)),.int .u64 (u64 (1+c.st.aL))]),c)
 |_=> .fail
theorem aam(A:Ad)(c:aq (RY A)):eh (H0 A Tryz.f60.ntmps) Tryz.f60 [.st 0] c=PV A [.st 0] c:=by kernel_rfl
def Vd(A:Ad):ej (RY A):=⟨60,#[],true,PV A⟩
theorem J8(A:Ad)(hA:A.Ok):(Vd A).Ok:=by
 have key:∀args c (Q:SV×aq (RY A)->Prop),(PV A args c).aD Q->(eh (H0 A Tryz.f60.ntmps) Tryz.f60 args c).aD Q:=fun args c Q h=>by
  unfold PV at h
  split at h
  ·rw[aam];exact h
  ·exact h.elim
 exact⟨fun args w=>by kernel_rfl,(fM (kT A hA) (sr A hA _) Tryz.func60).refine key,(iT (kT A hA) (sr A hA _)).refine key⟩
def PW(A:Ad)(N:Nat):eS (RY A):=⟨N,[(60,Vd A)],[(0,AE A)],[],[],[],0⟩
theorem J9(A:Ad)(hA:A.Ok)(N:Nat):(PW A N).Ok where
 uf:=fun p hp=>by
  obtain rfl:p=(60,Vd A):=by simpa[PW] using hp
  exact⟨J8 A hA,rfl,rfl⟩
 still:=fun p hp h=>by cases h
 fns:=fun p hp=>by
  obtain rfl:p=(0,AE A):=by simpa[PW] using hp
  exact⟨xW A hA,rfl⟩
 rX:=fun p hp=>by cases hp
def PX(A:Ad)(args:List SV)(c:aq (RY A)):af (SV×aq (RY A)):=
 match args with
 |[.st 0,.val (.string m)]=> .ae (.val (.tuple #[]),⟨pL c.st ⟨u64 (1+c.st.aC),u64 (1+c.st.aL),m⟩,c.bx⟩)
 |_=> .fail
end
end Sc
end Go.Proofs.YtogkcphobhhbdaaGreatDoor
namespace Go.Proofs.YtogkcphobhhbdaaGreatDoor
open Go Go.RowKit
namespace Ev
set_option maxRecDepth 100000
noncomputable section
def Ep(tm:List (Nat×SV)):List Nat->List (Nat×SV)
 |[]=>[]
 |i::r=>(i,look tm i)::Ep tm r
def trim{Y:Sys}(bm:List Nat)(e:E Y):E Y:=⟨e.c,Ep e.tm bm⟩
theorem AF(tm:List (Nat×SV))(i:Nat):∀bm,look (Ep tm bm) i= .jk∨look (Ep tm bm) i=look tm i
 |[]=> .inl rfl
 |j::r=>by
  simp only[Ep,aF]
  by_cases h:i=j
  ·rw[if_pos h,h];exact .inr rfl
  ·rw[if_neg h];exact AF tm i r
theorem mT{Y:Sys}(bm:List Nat)(e:E Y):wj e (trim bm e):=⟨rfl,fun i=>AF e.tm i bm⟩
def ss{Y:Sys}(C:eS Y)(b:Code)(id:Nat)(bm:List Nat):Nat->E Y->af (Ex×E Y)
 |0,_=> .fail
 |n+1,e=>(az C b e).bind fun xe=>match xe.1 with
  | .normal=>ss C b id bm n (trim bm xe.2)
  | .exit i=>bif Nat.beq i id then .ae (.normal,trim bm xe.2)else .ae xe
  |_=> .ae xe
theorem qX{Y:Sys}(hY:Laws Y){C:eS Y}(hC:C.Ok){b:Code}{id:Nat}{bm:List Nat}:∀(n:Nat) (e:E Y) (Q:Ex×E Y->Prop),Y.eM e.c.st->(ss C b id bm n e).aD Q->∃q,Q q∧Y.eM q.2.c.st
 |0,e,Q,_,h=>h.elim
 |n+1,e,Q,hb,h=>by
  simp only[ss,ax]at h
  obtain⟨⟨x1,e1⟩,h1,cz⟩:=fV hY hC b e _ hb h
  obtain⟨⟩|⟨i⟩|⟨l⟩|⟨⟩:=x1
  ·exact qX hY hC n (trim bm e1) Q cz h1
  ·simp only at h1
   cases hi:Nat.beq i id with
   |true=>rw[hi]at h1;exact⟨_,h1,cz⟩
   |false=>rw[hi]at h1;exact⟨_,h1,cz⟩
  ·exact⟨_,h1,cz⟩
  ·exact⟨_,h1,cz⟩
theorem PY{Y:Sys}(hY:Laws Y){C:eS Y}(hC:C.Ok){b:Code}{id:Nat}(bm:List Nat)(fuel:E Y->Nat):
 cy Y C.N id (.loop b) fun e=>ss C b id bm (fuel e) (trim bm e):=by
 refine⟨fun e bl a w Q hI h=> ?_,fun e Q hb h=>qX hY hC (fuel e) (trim bm e) Q hb h⟩
 refine HN hY hC (fun p:Nat×E Y=>p.2) (fun p=>p.1) (fun p=>ss C b id bm p.1 p.2) (fun p Q hs=> ?_) (fun p Q hb hs=>qX hY hC _ _ _ hb hs) (fuel e,trim bm e) Q bl a w (hI.da (mT bm e)) h
 obtain⟨n,e1⟩:=p
 cases n with
 |zero=>exact hs.elim
 |succ n=>
  simp only[ss,ax]at hs
  refine an hs ?_
  rintro⟨x,e2⟩ hq
  obtain⟨⟩|⟨i⟩|⟨l⟩|⟨⟩:=x
  ·exact⟨(n,trim bm e2),mT bm e2,Nat.lt_succ_self n,hq⟩
  ·simp only at hq⊢
   by_cases hi:i=id
   ·subst hi
    rw[if_pos rfl]
    have:Nat.beq i i=true:=by simp
    rw[this]at hq
    exact⟨_,mT bm e2,hq⟩
   ·rw[if_neg hi]
    have:Nat.beq i id=false:=by
     cases hb:Nat.beq i id with
     |false=>rfl
     |true=>exact absurd (Nat.eq_of_beq_eq_true hb) hi
    rw[this]at hq
    exact hq
  ·exact hq
  ·exact hq
def nK{Y:Sys}(C:eS Y)(b:Code)(bm:List Nat):Nat->Nat->E Y->af (Ex×E Y)
 |0,_,_=> .fail
 |n+1,l,e=>match findLabel b l with
  |none=> .fail
  |some r=>(az C r e).bind fun xe=>match xe.1 with
   | .goto l'=>nK C b bm n l' (trim bm xe.2)
   |_=> .ae xe
theorem vD{Y:Sys}(hY:Laws Y){C:eS Y}(hC:C.Ok){b:Code}{bm:List Nat}:∀(n l:Nat) (e:E Y) (Q:Ex×E Y->Prop),Y.eM e.c.st->(nK C b bm n l e).aD Q->∃q,Q q∧Y.eM q.2.c.st
 |0,l,e,Q,_,h=>h.elim
 |n+1,l,e,Q,hb,h=>by
  unfold nK at h
  split at h
  ·exact h.elim
  ·rename_i r _
   simp only[ax]at h
   obtain⟨⟨x1,e1⟩,h1,cz⟩:=fV hY hC r e _ hb h
   obtain⟨⟩|⟨i⟩|⟨l'⟩|⟨⟩:=x1
   ·exact⟨_,h1,cz⟩
   ·exact⟨_,h1,cz⟩
   ·exact vD hY hC n l' (trim bm e1) Q cz h1
   ·exact⟨_,h1,cz⟩
def Cv{Y:Sys}(C:eS Y)(b:Code)(bm:List Nat)(fuel:E Y->Nat)(e:E Y):af (Ex×E Y):=
 (az C b e).bind fun xe=>match xe.1 with
   | .goto l'=>nK C b bm (fuel e) l' (trim bm xe.2)
   |_=> .ae xe
theorem H4{Y:Sys}(hY:Laws Y){C:eS Y}(hC:C.Ok){b:Code}(bm:List Nat)(fuel:E Y->Nat):ki Y C.N (.scope b) (Cv C b bm fuel):=by
 refine El hY hC (fun l (p:Nat×E Y)=>p.2) (fun l p=>p.1) (fun l p=>nK C b bm p.1 l p.2) (fun l=>(findLabel b l).getD .skip) (fun l p Q hs=> ?_) (fun l p Q hb hs=>vD hY hC _ _ _ _ hb hs) _ (fun e Q hs=> ?_)
 ·obtain⟨n,e1⟩:=p
  cases n with
  |zero=>exact hs.elim
  |succ n=>
   simp only[nK]at hs
   split at hs
   ·exact hs.elim
   ·rename_i r hr
    refine⟨by rw[hr];rfl,?_⟩
    rw[hr]
    simp only[ax]at hs
    refine an hs ?_
    rintro⟨x,e2⟩ hq
    obtain⟨⟩|⟨i⟩|⟨l'⟩|⟨⟩:=x
    ·exact hq
    ·exact hq
    ·exact⟨(n,trim bm e2),mT bm e2,Nat.lt_succ_self n,hq⟩
    ·exact hq
 ·simp only[Cv,ax]at hs
  refine an hs ?_
  rintro⟨x,e2⟩ hq
  obtain⟨⟩|⟨i⟩|⟨l'⟩|⟨⟩:=x
  ·exact hq
  ·exact hq
  ·exact⟨(fuel e,trim bm e2),mT bm e2,hq⟩
  ·exact hq
def aX:Code->Nat->Code
 | .seq a b,i=>match aX a i with
  | .skip=>aX b i
  |c=>c
 | .cond _ a b,i=>match aX a i with
  | .skip=>aX b i
  |c=>c
 | .block j b,i=>bif Nat.beq j i then b else aX b i
 | .loop b,i=>aX b i
 | .scope b,i=>aX b i
 |_,_=> .skip
def a_:Code->Code
 | .loop b=>b
 |c=>c
def wI:Code->Code
 | .seq a b=>match wI a with
  | .skip=>wI b
  |c=>c
 | .scope b=>b
 |_=> .skip
def av(f:Func):Code:=f.body.getD .skip
def Y4(id:Nat):Code->Bool
 | .block i _=>Nat.beq i id
 |_=>false
def splitAt(id:Nat):Code->Option (Code×Code)
 | .seq a r=>bif Y4 id a then some (.skip,.seq a r)else(splitAt id r).map fun p=>(.seq a p.1,p.2)
 |_=>none
theorem jJ{Y:Sys}{C:eS Y}{a b:Code}{e:E Y}{Q:Ex×E Y->Prop}:(az C (.seq a b) e).aD Q↔(az C a e).aD fun xe=>match xe.1 with
 | .normal=>(az C b xe.2).aD Q
 |_=>Q xe:=by
 simp only[az,ax]
 constructor
 ·intro h
  refine an h ?_
  rintro⟨x,e'⟩ hq
  obtain⟨⟩|⟨i⟩|⟨l⟩|⟨⟩:=x<;>exact hq
 ·intro h
  refine an h ?_
  rintro⟨x,e'⟩ hq
  obtain⟨⟩|⟨i⟩|⟨l⟩|⟨⟩:=x<;>exact hq
theorem Mm{Y:Sys}{C:eS Y}{id:Nat}:∀{c x y:Code} {e:E Y} {Q:Ex×E Y->Prop},splitAt id c=some (x,y)->(az C (.seq x y) e).aD Q->(az C c e).aD Q:=by
 intro c
 induction c with
 |seq a r _ ih=>
  intro x y e Q hs h
  simp only[splitAt]at hs
  cases hb:Y4 id a with
  |true=>
   simp only[hb,cond_true,Option.some.injEq,Prod.mk.injEq]at hs
   obtain⟨rfl,rfl⟩:=hs
   rw[jJ]at h
   exact h
  |false=>
   simp only[hb,cond_false]at hs
   obtain⟨⟨x',y'⟩,hp,heq⟩:=Option.map_eq_some_iff.1 hs
   simp only[Prod.mk.injEq]at heq
   obtain⟨rfl,rfl⟩:=heq
   rw[jJ,jJ]at h
   rw[jJ]
   refine an h ?_
   rintro⟨z,e'⟩ hq
   obtain⟨⟩|⟨i⟩|⟨l⟩|⟨⟩:=z
   ·refine ih hp ?_
    rw[jJ];exact hq
   ·exact hq
   ·exact hq
   ·exact hq
 |_=>intro x y e Q hs h;simp[splitAt]at hs
theorem Mn{Y:Sys}{C:eS Y}{id:Nat}{b:Code}{g:E Y->af (Ex×E Y)}{e:E Y}{Q:Ex×E Y->Prop}(hf:find C.jI id=some g)(ia:cy Y C.N id b g)(h:(g e).aD Q):(az C (.block id b) e).aD Q:=by
 simp only[az,hf]
 exact⟨ia,h⟩
theorem Mo{Y:Sys}{C:eS Y}{b:Code}{g:E Y->af (Ex×E Y)}{e:E Y}{Q:Ex×E Y->Prop}(hf:find C.jI 1000000=some g)(ia:ki Y C.N (.scope b) g)(h:(g e).aD Q):(az C (.scope b) e).aD Q:=by
 simp only[az,hf]
 exact⟨ia,h⟩
def xX:Code->Code
 | .seq _ b=>b
 |c=>c
def Er(id:Nat)(c:Code):Code:=match splitAt id c with
 |some p=>p.1
 |none=> .skip
def uu(id:Nat)(c:Code):Code:=match splitAt id c with
 |some p=>p.2
 |none=> .skip
end
end Ev
end Go.Proofs.YtogkcphobhhbdaaGreatDoor
namespace Go.Proofs.YtogkcphobhhbdaaGreatDoor
open Go Go.RowKit
namespace Sc
open Ev
set_option maxRecDepth 100000
noncomputable section
theorem aan(A:Ad)(c:aq (RY A))(m:U):eh (PW A Tryz.f84.ntmps) Tryz.f84 [.st 0,.val (.string m)] c=PX A [.st 0,.val (.string m)] c:=by kernel_rfl
def aao(A:Ad):ej (RY A):=⟨84,#[],true,PX A⟩
theorem J_(A:Ad)(hA:A.Ok):(aao A).Ok:=by
 have key:∀args c (Q:SV×aq (RY A)->Prop),(PX A args c).aD Q->(eh (PW A Tryz.f84.ntmps) Tryz.f84 args c).aD Q:=fun args c Q h=>by
  unfold PX at h
  split at h
  ·rw[aan];exact h
  ·exact h.elim
 exact⟨fun args w=>by kernel_rfl,(fM (kT A hA) (J9 A hA _) Tryz.func84).refine key,(iT (kT A hA) (J9 A hA _)).refine key⟩
def Y5(A:Ad):ej (RY A):=⟨85,#[],false,Eo A⟩
theorem PZ(A:Ad)(hA:A.Ok):(Y5 A).Ok:=⟨fun args w=>by kernel_rfl,Vc A hA,Mk A⟩
def adM(A:Ad):ej (RY A):=⟨87,#[],false,HZ A⟩
theorem Ve(A:Ad)(hA:A.Ok):(adM A).Ok:=⟨fun args w=>by kernel_rfl,aal A hA,PU A⟩
def Y6(A:Ad):ej (RY A):=⟨86,#[],true,En A⟩
theorem P0(A:Ad)(hA:A.Ok):(Y6 A).Ok:=⟨fun args w=>by kernel_rfl,Vb A hA,L9 A hA⟩
def P1(A:Ad):List (Nat×ej (RY A)):=[(84,aao A),(85,Y5 A),(86,Y6 A),(87,adM A)]
def zW(A:Ad)(jI:List (Nat×(E (RY A)->af (Ex×E (RY A))))):eS (RY A):=⟨Tryz.f61.ntmps,P1 A,[],jI,[87],[],0⟩
theorem wJ(A:Ad)(hA:A.Ok)(jI):(zW A jI).Ok where
 uf:=fun p hp=>by
  simp only[zW,P1,List.mem_cons,List.not_mem_nil,or_false]at hp
  rcases hp with rfl|rfl|rfl|rfl
  ·exact⟨J_ A hA,rfl,rfl⟩
  ·exact⟨PZ A hA,rfl,rfl⟩
  ·exact⟨P0 A hA,rfl,rfl⟩
  ·exact⟨Ve A hA,rfl,rfl⟩
 still:=fun p hp h=>by
  simp only[zW,P1,List.mem_cons,List.not_mem_nil,or_false]at hp
  rcases hp with rfl|rfl|rfl|rfl
  ·cases h
  ·cases h
  ·cases h
  ·exact⟨rfl,Ml A⟩
 fns:=fun p hp=>by cases hp
 rX:=fun p hp=>by cases hp
def AG:Code:=a_ (aX (av Tryz.f61) 0)
def dU:Code:=wI (av Tryz.f61)
def Cw(A:Ad)(e:E (RY A)):af (Ex×E (RY A)):=ss (zW A []) AG 0 [0] 4 (trim [0] e)
def oC(A:Ad):eS (RY A):=zW A [(0,Cw A)]
def Cx(A:Ad)(e:E (RY A)):af (Ex×E (RY A)):=Cv (oC A) dU [0] (fun _=>5000) e
def su(A:Ad):eS (RY A):=zW A [(1000000,Cx A)]
def Y7{A:Ad}(xe:Ex×E (RY A)):af (Ex×E (RY A)):= .ae (xe.1,trim [0] xe.2)
def vE(A:Ad)(x:Raw)(bx:List Value):af (Ex×E (RY A)):=
 (vC A x bx).bind fun p=> .ae (.normal,⟨⟨p.2.st,p.2.bx⟩,[(0,.st 0)]⟩)
def Mp(A:Ad)(x:Raw)(bx:List Value):af (Ex×E (RY A)):= .ae (.exit 0,⟨⟨x,bx⟩,[(0,.st 0)]⟩)
def lS(A:Ad)(x:Raw)(bx:List Value)(more:af (Ex×E (RY A))):af (Ex×E (RY A)):=
 .aj (decide (pM (x.e-x.r)<4))
  (.aY (0<=x.r∧x.r<=x.e∧x.e<=x.buf.size)
    (.aj (Nat.beq (x.buf.extract x.r.toNat x.e.toNat).size 0) more (.any (Mp A x bx) more)))
  (Mp A x bx)
def zX(A:Ad)(e:Ex)(x:Raw)(bx:List Value):af (Ex×E (RY A)):= .ae (e,⟨⟨x,bx⟩,[(0,.st 0)]⟩)
def tell(x:Raw)(m:U):Raw:=pL x ⟨u64 (1+x.aC),u64 (1+x.aL),m⟩
def AH(A:Ad)(x:Raw)(bx:List Value):af (Ex×E (RY A)):=
 .aY (0<=x.r∧x.r.toNat<x.buf.size)
  (.aj (decide (IntKind.i32.wrap (x.buf.get! x.r.toNat).toNat<128))
    (.aj (IntKind.i32.wrap (x.buf.get! x.r.toNat).toNat==0)
      (zX A (.goto 0) (tell {x with ch:=IntKind.i32.wrap (x.buf.get! x.r.toNat).toNat,r:=pM (x.r+1),bD:=1} HO) bx)
      (zX A .ret {x with ch:=IntKind.i32.wrap (x.buf.get! x.r.toNat).toNat,r:=pM (x.r+1),bD:=1} bx))
    (zX A .normal {x with ch:=IntKind.i32.wrap (x.buf.get! x.r.toNat).toNat} bx))
def pN(A:Ad)(x:Raw)(bx:List Value):af (Ex×E (RY A)):=
 .aj (x.ch==10) (AH A {x with aC:=u64 (x.aC+1),aL:=0} bx) (AH A {x with aL:=u64 (x.aL+u64 x.bD)} bx)
def Mq(A:Ad)(x:Raw)(bx:List Value):af (Ex×E (RY A)):=
 .aj (x.ch==65279)
  (.aj (decide (x.aC>0)) (zX A (.goto 0) (tell x qS) bx) (.aj (decide (x.aL>0)) (zX A (.goto 0) (tell x qS) bx) (zX A (.goto 0) x bx)))
  (zX A .normal x bx)
def Ka(A:Ad)(x:Raw)(bx:List Value):af (Ex×E (RY A)):=
 .aj (x.ch==65533) (.aj (x.bD==1) (zX A (.goto 0) (tell x xP) bx) (Mq A x bx)) (Mq A x bx)
def Cy(A:Ad)(x:Raw)(bx:List Value)(eof:af (Ex×E (RY A))):af (Ex×E (RY A)):=
 .aj (x.r==x.e) eof
  (.aY (0<=x.r∧x.r<=x.e∧x.e<=x.buf.size)
    (Ka A {x with ch:=(Lib.decodeGo (x.buf.extract x.r.toNat x.e.toNat)).1,bD:=(Lib.decodeGo (x.buf.extract x.r.toNat x.e.toNat)).2,r:=pM (x.r+(Lib.decodeGo (x.buf.extract x.r.toNat x.e.toNat)).2)} bx))
theorem H5(A:Ad)(x:Raw)(bx:List Value):(az (oC A) (Er 0 dU) ⟨⟨x,bx⟩,[(0,.st 0)]⟩).bind Y7=pN A x bx:=by kernel_rfl
theorem H6(A:Ad)(x:Raw)(bx:List Value):(az (oC A) (xX (uu 0 dU)) ⟨⟨{x with io:=true},bx⟩,[(0,.st 0)]⟩).bind Y7=Cy A {x with io:=true} bx (zX A .ret {x with io:=true,ch:= -1,bD:=0} bx):=by kernel_rfl
theorem H7(A:Ad)(x:Raw)(bx:List Value):(az (oC A) (xX (uu 0 dU)) ⟨⟨{x with io:=false},bx⟩,[(0,.st 0)]⟩).bind Y7=Cy A {x with io:=false} bx .fail:=by kernel_rfl
theorem H8(A:Ad)(x:Raw)(bx:List Value):(az (zW A []) AG ⟨⟨{x with io:=true},bx⟩,[(0,.st 0)]⟩).bind Y7=lS A {x with io:=true} bx (Mp A {x with io:=true} bx):=by kernel_rfl
theorem H9(A:Ad)(x:Raw)(bx:List Value):(az (zW A []) AG ⟨⟨{x with io:=false},bx⟩,[(0,.st 0)]⟩).bind Y7=lS A {x with io:=false} bx (vE A {x with io:=false} bx):=by kernel_rfl
theorem Cz:splitAt 0 dU=some (Er 0 dU,uu 0 dU):=by kernel_rfl
theorem adN:uu 0 dU= .seq (.block 0 (.loop AG)) (xX (uu 0 dU)):=by kernel_rfl
theorem adO:dU= .seq (.label 0) (xX dU):=by kernel_rfl
theorem aap:findLabel dU 0=some (.seq .skip (xX dU)):=by kernel_rfl
theorem CA{A:Ad}{T:af (Ex×E (RY A))}{P:Ex×E (RY A)->Prop}:(T.bind Y7).aD P↔T.aD fun xe=>P (xe.1,trim [0] xe.2):=by
 rw[ax];rfl
def lT(A:Ad):Nat->Raw->List Value->(Raw->List Value->Prop)->Prop
 |0,_,_,_=>False
 |n+1,x,bx,K=>(lS A x bx (if x.io=true then Mp A x bx else vE A x bx)).aD fun xe=>match xe.1 with
  | .normal=>lT A n xe.2.c.st xe.2.c.bx K
  | .exit i=>i=0∧K xe.2.c.st xe.2.c.bx
  |_=>False
theorem P2(A:Ad)(x:Raw)(bx:List Value):(az (zW A []) AG ⟨⟨x,bx⟩,[(0,.st 0)]⟩).bind Y7=lS A x bx (if x.io=true then Mp A x bx else vE A x bx):=by
 obtain⟨buf,io,b,r,e,l0,c0,ch,bD,mode,nl,l,c,bl,tok,lit,bad,kind,op,prec,m,ab⟩:=x
 cases io with
 |true=>exact H8 A ⟨buf,true,b,r,e,l0,c0,ch,bD,mode,nl,l,c,bl,tok,lit,bad,kind,op,prec,m,ab⟩ bx
 |false=>exact H9 A ⟨buf,false,b,r,e,l0,c0,ch,bD,mode,nl,l,c,bl,tok,lit,bad,kind,op,prec,m,ab⟩ bx
def E0(A:Ad)(x:Raw)(bx:List Value):E (RY A):=⟨⟨x,bx⟩,[(0,.st 0)]⟩
def Et{A:Ad}(xe:Ex×E (RY A)):Prop:=xe.2=E0 A xe.2.c.st xe.2.c.bx
theorem Mr{A:Ad}{x:Raw}{bx:List Value}{P:Ex×E (RY A)->Prop}(h:(vE A x bx).aD P):(vE A x bx).aD fun xe=>Et xe∧P xe:=by
 unfold vE at*
 rw[ax]at*
 exact an h fun p hp=>⟨rfl,hp⟩
theorem Eu{A:Ad}{x:Raw}{bx:List Value}{more:af (Ex×E (RY A))}{P:Ex×E (RY A)->Prop}(hm:∀P,more.aD P->more.aD fun xe=>Et xe∧P xe)(h:(lS A x bx more).aD P):(lS A x bx more).aD fun xe=>Et xe∧P xe:=by
 refine⟨fun h0=>⟨(h.1 h0).1,fun h1=>hm _ (((h.1 h0).2).1 h1),fun h1=>⟨⟨rfl,(((h.1 h0).2).2 h1).1⟩,hm _ (((h.1 h0).2).2 h1).2⟩⟩,fun h0=>⟨rfl,h.2 h0⟩⟩
theorem Ew(A:Ad){Q:Ex×E (RY A)->Prop}{K:Raw->List Value->Prop}(hQ:∀x bx,K x bx->Q (.normal,E0 A x bx)):∀(n:Nat) (x:Raw) (bx:List Value),lT A n x bx K->(ss (zW A []) AG 0 [0] n (E0 A x bx)).aD Q
 |0,x,bx,h=>h.elim
 |n+1,x,bx,h=>by
  simp only[ss,ax]
  unfold lT at h
  have h':=Eu (fun P hP=>by
   by_cases sd:x.io=true
   ·rw[if_pos sd]at hP⊢;exact⟨rfl,hP⟩
   ·rw[if_neg sd]at hP⊢;exact Mr hP) h
  rw[←P2,CA]at h'
  refine an h' ?_
  rintro⟨ex,e1⟩ ⟨h1,h2⟩
  have Kb:trim [0] e1=E0 A e1.c.st e1.c.bx:=h1
  obtain⟨⟩|⟨i⟩|⟨l⟩|⟨⟩:=ex
  ·simp only at h2⊢
   rw[Kb]
   exact Ew A hQ n _ _ h2
  ·obtain⟨rfl,hk⟩:=h2
   simp only
   have:Nat.beq 0 0=true:=rfl
   rw[this,Kb]
   exact hQ _ _ hk
  ·exact h2.elim
  ·exact h2.elim
def Ms(A:Ad)(x:Raw)(bx:List Value):af (Ex×E (RY A)):=Cy A x bx (if x.io=true then zX A .ret {x with ch:= -1,bD:=0} bx else .fail)
theorem aaq(A:Ad)(x:Raw)(bx:List Value):(az (oC A) (xX (uu 0 dU)) (E0 A x bx)).bind Y7=Ms A x bx:=by
 obtain⟨buf,io,b,r,e,l0,c0,ch,bD,mode,nl,l,c,bl,tok,lit,bad,kind,op,prec,m,ab⟩:=x
 cases io with
 |true=>exact H6 A ⟨buf,true,b,r,e,l0,c0,ch,bD,mode,nl,l,c,bl,tok,lit,bad,kind,op,prec,m,ab⟩ bx
 |false=>exact H7 A ⟨buf,false,b,r,e,l0,c0,ch,bD,mode,nl,l,c,bl,tok,lit,bad,kind,op,prec,m,ab⟩ bx
def lU(A:Ad):Nat->Raw->List Value->(Raw->List Value->Prop)->Prop
 |0,_,_,_=>False
 |n+1,x,bx,K=>(pN A x bx).aD fun xe=>match xe.1 with
  | .ret=>K xe.2.c.st xe.2.c.bx
  | .goto l=>l=0∧lU A n xe.2.c.st xe.2.c.bx K
  | .normal=>lT A 4 xe.2.c.st xe.2.c.bx fun x' Y8=>(Ms A x' Y8).aD fun ye=>match ye.1 with
   | .ret=>K ye.2.c.st ye.2.c.bx
   | .normal=>K ye.2.c.st ye.2.c.bx
   | .goto l=>l=0∧lU A n ye.2.c.st ye.2.c.bx K
   |_=>False
  |_=>False
theorem AI{A:Ad}{x:Raw}{bx:List Value}{P:Ex×E (RY A)->Prop}(h:(AH A x bx).aD P):(AH A x bx).aD fun xe=>Et xe∧P xe:=
 ⟨h.1,fun h0=>⟨fun h1=>⟨rfl,(h.2.1 h0).1 h1⟩,fun h1=>⟨rfl,(h.2.1 h0).2 h1⟩⟩,fun h0=>⟨rfl,h.2.2 h0⟩⟩
theorem Ey{A:Ad}{x:Raw}{bx:List Value}{P:Ex×E (RY A)->Prop}(h:(pN A x bx).aD P):(pN A x bx).aD fun xe=>Et xe∧P xe:=
 ⟨fun h0=>AI (h.1 h0),fun h0=>AI (h.2 h0)⟩
theorem Ez{A:Ad}{x:Raw}{bx:List Value}{P:Ex×E (RY A)->Prop}(h:(Mq A x bx).aD P):(Mq A x bx).aD fun xe=>Et xe∧P xe:=
 ⟨fun h0=>⟨fun h1=>⟨rfl,(h.1 h0).1 h1⟩,fun h1=>⟨fun h2=>⟨rfl,((h.1 h0).2 h1).1 h2⟩,fun h2=>⟨rfl,((h.1 h0).2 h1).2 h2⟩⟩⟩,fun h0=>⟨rfl,h.2 h0⟩⟩
theorem Mt{A:Ad}{x:Raw}{bx:List Value}{P:Ex×E (RY A)->Prop}(h:(Ka A x bx).aD P):(Ka A x bx).aD fun xe=>Et xe∧P xe:=
 ⟨fun h0=>⟨fun h1=>⟨rfl,(h.1 h0).1 h1⟩,fun h1=>Ez ((h.1 h0).2 h1)⟩,fun h0=>Ez (h.2 h0)⟩
theorem P3{A:Ad}{x:Raw}{bx:List Value}{P:Ex×E (RY A)->Prop}(h:(Ms A x bx).aD P):(Ms A x bx).aD fun xe=>Et xe∧P xe:=by
 refine⟨fun h0=> ?_,fun h0=>⟨(h.2 h0).1,Mt (h.2 h0).2⟩⟩
 have h1:=h.1 h0
 by_cases sd:x.io=true
 ·rw[if_pos sd]at h1⊢;exact⟨rfl,h1⟩
 ·rw[if_neg sd]at h1;exact h1.elim
theorem P4(A:Ad){e:E (RY A)}{P:Ex×E (RY A)->Prop}(h:(az (oC A) dU e).aD P):(az (oC A) (xX dU) e).aD P:=by
 have key:∀y,dU= .seq (.label 0) y->(az (oC A) y e).aD P:=fun y hy=>by
  rw[hy,jJ]at h
  exact h
 exact key _ adO
theorem P5(A:Ad)(hA:A.Ok){Q:Ex×E (RY A)->Prop}{K:Raw->List Value->Prop}(hQ:∀ex c tm,(ex= .ret∨ex= .normal)->K c.st c.bx->Q (ex,⟨c,tm⟩)):
 ∀(n:Nat) (x:Raw) (bx:List Value),lU A (n+1) x bx K->(az (oC A) dU (E0 A x bx)).aD fun xe=>match xe.1 with
  | .goto l'=>(nK (oC A) dU [0] n l' (trim [0] xe.2)).aD Q
  |_=>Q xe:=by
 intro n
 induction n using Nat.strongRecOn with
 |_ n ih=>
  intro x bx h
  have jump:∀x bx,lU A n x bx K->(nK (oC A) dU [0] n 0 (E0 A x bx)).aD Q:=by
   intro x bx hn
   cases n with
   |zero=>exact hn.elim
   |succ m=>
    have:=ih m (Nat.lt_succ_self m) x bx hn
    simp only[nK,aap,ax]
    rw[jJ]
    show(az (oC A) (xX dU) (E0 A x bx)).aD _
    refine an (P4 A this) ?_
    rintro⟨ex,e1⟩ hq
    obtain⟨⟩|⟨i⟩|⟨l⟩|⟨⟩:=ex<;>exact hq
  unfold lU at h
  have h':=Ey h
  rw[←H5,CA]at h'
  refine Mm Cz ?_
  rw[jJ]
  refine an h' ?_
  rintro⟨ex,e1⟩ ⟨h1,h2⟩
  have Kb:trim [0] e1=E0 A e1.c.st e1.c.bx:=h1
  obtain⟨⟩|⟨i⟩|⟨l⟩|⟨⟩:=ex
  ·simp only at h2⊢
   rw[adN,jJ]
   refine Mn (g:=Cw A) rfl (PY (kT A hA) (wJ A hA []) [0] (fun _=>4)) ?_
   unfold Cw
   rw[Kb]
   refine Ew A (fun x' Y8 hk=> ?_) 4 _ _ h2
   have h3:=P3 hk
   rw[←aaq,CA]at h3
   refine an h3 ?_
   rintro⟨ex2,e2⟩ ⟨h4,h5⟩
   have h4':trim [0] e2=E0 A e2.c.st e2.c.bx:=h4
   obtain⟨⟩|⟨i⟩|⟨l⟩|⟨⟩:=ex2
   ·exact hQ _ _ _ (.inr rfl) h5
   ·exact h5.elim
   ·obtain⟨rfl,h6⟩:=h5
    simp only
    rw[h4']
    exact jump _ _ h6
   ·exact hQ _ _ _ (.inl rfl) h5
  ·exact h2.elim
  ·obtain⟨rfl,h6⟩:=h2
   simp only
   rw[Kb]
   exact jump _ _ h6
  ·exact hQ _ _ _ (.inl rfl) h2
theorem adP:(Tryz.f61).body=some (.scope dU):=by kernel_rfl
theorem nFn(A:Ad)(x:Raw)(bx:List Value):eh (su A) Tryz.f61 [.st 0] ⟨x,bx⟩=(az (su A) (.scope dU) (E0 A x bx)).bind (kR Tryz.f61):=by
 unfold eh
 rw[adP]
 have hN:(Nat.beq (Tryz.f61).ntmps (su A).N&&Nat.ble [SV.st 0].length (su A).N)=true:=by kernel_rfl
 simp only[hN,cond_true]
 exact congrArg (fun e=>(az (su A) (.scope dU) e).bind (kR Tryz.f61)) (show(⟨⟨x,bx⟩,number 0 [.st 0]⟩:E (RY A))=E0 A x bx from rfl)
theorem EA(A:Ad)(hA:A.Ok){x:Raw}{bx:List Value}{K:Raw->List Value->Prop}(h:lU A 5001 x bx K):
 (eh (su A) Tryz.f61 [.st 0] ⟨x,bx⟩).aD fun p=>p.1= .val (.tuple #[])∧K p.2.st p.2.bx:=by
 rw[nFn,ax]
 refine Mo (g:=Cx A) rfl (H4 (kT A hA) (wJ A hA [(0,Cw A)]) [0] (fun _=>5000)) ?_
 unfold Cx Cv
 rw[ax]
 refine an (P5 A hA (Q:=fun xe=>(kR Tryz.f61 xe).aD fun p=>p.1= .val (.tuple #[])∧K p.2.st p.2.bx) (fun ex c tm hex hk=> ?_) 5000 x bx h) ?_
 ·rcases hex with rfl|rfl
  ·exact⟨rfl,hk⟩
  ·exact⟨rfl,hk⟩
 ·rintro⟨ex,e1⟩ hq
  obtain⟨⟩|⟨i⟩|⟨l⟩|⟨⟩:=ex<;>exact hq
theorem Kc(A:Ad)(hA:A.Ok):fg (RY A) 61 #[] true (eh (su A) Tryz.f61):=fM (kT A hA) (wJ A hA _) Tryz.func61
theorem Mu(A:Ad)(hA:A.Ok):gT (eh (su A) Tryz.f61):=iT (kT A hA) (wJ A hA _)
structure sA(A:Ad)(x:Raw)(k r e:Nat):Prop where
 hr:x.r=r
 he:x.e=e
 re:r<=e
 hm:x.m=k+e
 bs:x.buf.size=4096
 cont:∀j,j<e->x.buf.get! j=A.O.get! (k+j)
 zY:x.buf.get! e=128
 ph:x.m=A.O.size∨x.m=0
 io:x.io=true->x.m=A.O.size
 n:A.O.size<=2048
theorem sA.zZ{A:Ad}{x:Raw}{k r e:Nat}(h:sA A x k r e):e<=2048:=by
 have:=h.n;have:=h.hm;rcases h.ph with h|h<;>omega
theorem kY{n:Int}(h1: -9223372036854775808<=n)(h2:n<=9223372036854775807):pM n=n:=by
 show IntKind.i64.wrap n=n
 rw[IntKind.wrap_i64];omega
theorem H_(l:List UInt8)(i:Nat):(⟨l.toArray⟩:U).get! i=l.getD i 0:=by
 show l.toArray[i]! =_
 by_cases h:i<l.length
 ·rw[getElem!_pos l.toArray i (by simpa using h)];simp[List.getD_eq_getElem?_getD,h]
 ·rw[getElem!_neg l.toArray i (by simpa using h)];simp[List.getD_eq_getElem?_getD,h];rfl
theorem dM(bs:U)(i:Nat):bs.get! i=bs.data.toList.getD i 0:=by
 cases bs with
 |mk d=>rw[show(⟨d⟩:U)=⟨d.toList.toArray⟩by simp];rw[H_]
theorem Kd(bs:U)(i j:Nat)(b:UInt8)(hi:i<bs.size):(bs.set! i b).get! j=if j=i then b else bs.get! j:=by
 show(bs.data.set! i b)[j]! =_
 rw[Array.set!_eq_setIfInBounds]
 have wb:i<bs.data.size:=hi
 by_cases hj:j<bs.data.size
 ·rw[getElem!_pos _ j (by simpa using hj),Array.getElem_setIfInBounds (by simpa using hj)]
  by_cases h:i=j
  ·subst h;simp
  ·have h':¬j=i:=fun e=>h e.symm
   rw[if_neg h,if_neg h']
   show bs.data[j]=bs.data[j]!
   rw[getElem!_pos bs.data j hj]
 ·have h':¬j=i:=by omega
  rw[if_neg h',getElem!_neg _ j (by simpa using hj)]
  show _=bs.data[j]!
  rw[getElem!_neg bs.data j hj]
theorem P6(bs:U)(so n j:Nat)(hso:so+n<=bs.size)(hj:j<n):(wk bs 0 so n).get! j=bs.get! (so+j):=by
 unfold wk
 rw[H_,dM]
 have hl:=bu bs
 simp only[List.take_zero,List.nil_append,List.getD_eq_getElem?_getD]
 rw[List.getElem?_append_left (by simp;omega),List.getElem?_take,if_pos hj,List.getElem?_drop]
theorem Mw(bs:U)(so n:Nat)(hso:so+n<=bs.size):(wk bs 0 so n).size=bs.size:=by
 unfold wk
 rw[Cr]
 have hl:=bu bs
 simp
 omega
theorem Vf(bs O:U)(j:Nat)(hj:j<O.size):(lay bs 0 O).get! j=O.get! j:=by
 unfold lay
 rw[H_,dM]
 have hl:=bu O
 simp only[List.take_zero,List.nil_append,List.getD_eq_getElem?_getD]
 rw[List.getElem?_append_left (by omega)]
theorem size_set(bs:U)(i:Nat)(b:UInt8):(bs.set! i b).size=bs.size:=by
 show(bs.data.set! i b).size=_
 rw[Array.set!_eq_setIfInBounds,Array.size_setIfInBounds];rfl
structure P7(A:Ad)(x:Raw)(k r:Nat)(x':Raw)(k' r' e':Nat)(b0:Nat):Prop where
 win:sA A x' k' r' e'
 pos:k'=k+b0
 aar:r=r'+b0
 same:x'={x with buf:=x'.buf,io:=x'.io,b:=x'.b,r:=x'.r,e:=x'.e,m:=x'.m}
 first:x.m≠A.O.size->x'.m=A.O.size∧x'.io=false
 last:x.m=A.O.size->x'.m=A.O.size∧x'.io=true
theorem vF{A:Ad}{x:Raw}{bx:List Value}{n k r e s:Nat}(hs:s=e+n)(hw:x.r=r∧x.e=e∧r<=e∧x.m=k+s∧x.buf.size=4096)(hc:∀j,j<s->x.buf.get! j=A.O.get! (k+j))(hm:x.m=A.O.size)(hn:A.O.size<=2048):
 (lR A x bx n).aD fun p=>p=(.val (.tuple #[]),⟨{x with e:=(s:Int),buf:=x.buf.set! s 128},bx⟩)∧sA A {x with e:=(s:Int),buf:=x.buf.set! s 128} k r s:=by
 obtain⟨h1,h2,h3,h4,h5⟩:=hw
 have bz:s<=2048:=by omega
 have e1:pM (x.e+n)=(s:Int):=by rw[kY (by omega) (by omega)];omega
 have e2:((s:Int)).toNat=s:=Int.toNat_natCast s
 unfold lR
 rw[e1,e2,Nat.zero_add]
 refine⟨⟨by omega,by omega⟩,by omega,rfl,⟨h1,rfl,by omega,h4,?_,fun j hj=> ?_,?_,.inl hm,fun _=>hm,hn⟩⟩
 ·show(x.buf.set! s 128).size=4096
  rw[size_set];exact h5
 ·show(x.buf.set! s 128).get! j=_
  rw[Kd _ _ _ _ (by omega),if_neg (by omega)];exact hc j hj
 ·show(x.buf.set! s 128).get! s=_
  rw[Kd _ _ _ _ (by omega),if_pos rfl]
theorem sB{A:Ad}{x:Raw}{bx:List Value}{k r e:Nat}(h1:x.r=r)(h2:x.e=e)(h3:r<=e)(h4:x.m=k+e)(h5:x.buf.size=4096)(hc:∀j,j<e->x.buf.get! j=A.O.get! (k+j))(ph:x.m=A.O.size∨x.m=0)(hn:A.O.size<=2048):
 (kX A x bx).aD fun p=>p.1= .val (.tuple #[])∧p.2.bx=bx∧∃e',sA A p.2.st k r e'∧p.2.st={x with buf:=p.2.st.buf,io:=p.2.st.io,e:=p.2.st.e,m:=p.2.st.m}∧
   (x.m≠A.O.size->p.2.st.m=A.O.size∧p.2.st.io=false)∧(x.m=A.O.size->p.2.st.m=A.O.size∧p.2.st.io=true):=by
 have he:e<=2048:=by rcases ph with h|h<;>omega
 have e1:pM ((4096:Nat)-1)=4095:=by decide
 have e2:x.e.toNat=e:=by rw[h2];exact Int.toNat_natCast e
 unfold kX
 rw[e1,e2]
 refine⟨fun _=>⟨⟨by omega,by omega,by omega,by omega,by omega⟩,rfl,rfl,fun hm=> ?_,fun hm=> ?_⟩,fun h=>by cases h⟩
 ·have YZ:=Nat.eq_of_beq_eq_true hm
  have key:=vF (A:=A) (x:={x with io:=true}) (bx:=bx) (n:=0) (k:=k) (r:=r) (e:=e) (s:=e) rfl ⟨h1,h2,h3,h4,h5⟩ hc YZ hn
  have fin:(lR A {x with io:=true} bx 0).aD fun p=>p.1= .val (.tuple #[])∧p.2.bx=bx∧∃e',sA A p.2.st k r e'∧p.2.st={x with buf:=p.2.st.buf,io:=p.2.st.io,e:=p.2.st.e,m:=p.2.st.m}∧
   (x.m≠A.O.size->p.2.st.m=A.O.size∧p.2.st.io=false)∧(x.m=A.O.size->p.2.st.m=A.O.size∧p.2.st.io=true):=by
   refine an key ?_
   rintro p ⟨rfl,hw⟩
   exact⟨rfl,rfl,e,hw,rfl,fun h=>absurd YZ h,fun _=>⟨YZ,rfl⟩⟩
  exact⟨fun h=>(by cases h),fun _=>⟨fun _=>fin,fun _=>fin⟩⟩
 ·have YZ:x.m≠A.O.size:=fun e=>by rw[e]at hm;simp at hm
  have UA:x.m=0:=by rcases ph with h|h;exact absurd h YZ;exact h
  have he0:e=0:=by omega
  have G7:k=0:=by omega
  subst he0 G7
  have hr0:r=0:=by omega
  subst hr0
  have sC:0<A.O.size:=by omega
  refine⟨⟨UA,?_,by omega⟩,fun h=> ?_,fun _=>⟨fun _=> ?_,fun h=> ?_⟩⟩
  ·have:(4095:Int).toNat=4095:=rfl
   omega
  ·have:=of_decide_eq_true h;omega
  ·have key:=vF (A:=A) (x:={x with io:=false,m:=A.O.size,buf:=lay x.buf (0+0) A.O}) (bx:=bx) (n:=A.O.size) (k:=0) (r:=0) (e:=0) (s:=A.O.size) (by omega)
    ⟨h1,h2,h3,by simp,by show(lay x.buf (0+0) A.O).size=4096;rw[Ek (by omega)];exact h5⟩ (fun j hj=>by show(lay x.buf (0+0) A.O).get! j=_;rw[Nat.zero_add,Nat.zero_add];exact Vf _ _ _ hj) rfl hn
   refine an key ?_
   rintro p ⟨rfl,hw⟩
   exact⟨rfl,rfl,A.O.size,hw,rfl,fun _=>⟨rfl,rfl⟩,fun h=>absurd h YZ⟩
  ·have:=of_decide_eq_false h;omega
theorem vG{A:Ad}{x:Raw}{bx:List Value}{k r e:Nat}(b:Nat)(h:sA A x k r e)(hb:b<=r):
 (nI A x bx b).aD fun p=>p.1= .val (.tuple #[])∧p.2.bx=bx∧∃r' e',P7 A x k r p.2.st (k+b) r' e' b∧p.2.st.b=x.b:=by
 have hel:=h.zZ
 have Vg:=h.re
 have wH:=h.bs
 have e1:x.e.toNat=e:=by rw[h.he];exact Int.toNat_natCast e
 have e2:((b:Int)).toNat=b:=Int.toNat_natCast b
 have er:pM (x.r-b)=((r-b:Nat):Int):=by rw[h.hr,kY (by omega) (by omega)];omega
 have ee:pM (x.e-b)=((e-b:Nat):Int):=by rw[h.he,kY (by omega) (by omega)];omega
 have ahl:Nat.min (e-b) 4096=e-b:=Nat.min_eq_left (by omega)
 unfold nI
 rw[e1,e2,er,ee,ahl]
 refine⟨⟨by omega,by rw[h.he];omega,by rw[h.he];omega,by omega,by omega⟩,fun hd=> ?_,fun _=>⟨fun hd=>⟨⟨by omega,by omega⟩,?_⟩,fun hd=> ?_⟩⟩
 ·have:=of_decide_eq_true hd
  rw[kY (by omega) (by omega)]at this
  omega
 ·refine an (sB (A:=A) (bx:=bx) (k:=k+b) (r:=r-b) (e:=e-b) (x:={x with buf:=wk x.buf 0 (0+b) (e-b),r:=((r-b:Nat):Int),e:=((e-b:Nat):Int)}) rfl rfl (by omega) (by have:=h.hm;show x.m=_;omega) (by show(wk x.buf 0 (0+b) (e-b)).size=4096;rw[Mw _ _ _ (by omega)];exact wH)
   (fun j hj=>by show(wk x.buf 0 (0+b) (e-b)).get! j=_;rw[P6 _ _ _ _ (by omega) hj,Nat.zero_add,h.cont _ (by omega),Nat.add_assoc]) h.ph h.n) ?_
  rintro p ⟨q1,q2,e',q3,q4,q5,q6⟩
  exact⟨q1,q2,r-b,e',⟨q3,rfl,by omega,by rw[q4],q5,q6⟩,by rw[q4]⟩
 ·have zM:b=0:=by have:=of_decide_eq_false hd;omega
  subst zM
  refine an (sB (A:=A) (bx:=bx) (k:=k) (r:=r) (e:=e) (x:={x with r:=((r-0:Nat):Int),e:=((e-0:Nat):Int)}) rfl rfl (by omega) h.hm wH h.cont h.ph h.n) ?_
  rintro p ⟨q1,q2,e',q3,q4,q5,q6⟩
  exact⟨q1,q2,r,e',⟨q3,rfl,by omega,by rw[q4],q5,q6⟩,by rw[q4]⟩
def G8(b:Option Nat)(xb:Int)(k p:Nat):Prop:=
 match b with
 |none=>xb= -1
 |some c=>∃d:Nat,xb=d∧c=k+d∧c<=p
theorem EB{A:Ad}{x:Raw}{bx:List Value}{k r e:Nat}{b:Option Nat}(h:sA A x k r e)(hb:G8 b x.b k (k+r)):
 (vC A x bx).aD fun p=>p.1= .val (.tuple #[])∧p.2.bx=bx∧∃b0 r' e',P7 A x k r p.2.st (k+b0) r' e' b0∧G8 b p.2.st.b (k+b0) (k+r):=by
 unfold vC
 cases b with
 |none=>
  have fX:x.b= -1:=hb
  refine⟨fun hd=> ?_,fun _=> ?_⟩
  ·have:=of_decide_eq_true hd;omega
  ·rw[h.hr]
   refine an (vG (bx:=bx) r h (Nat.le_refl _)) ?_
   rintro p ⟨q1,q2,r',e',q3,q4⟩
   exact⟨q1,q2,r,r',e',q3,by rw[q4];exact fX⟩
 |some c=>
  obtain⟨d,hd1,Mx,hd3⟩:=hb
  refine⟨fun _=> ?_,fun hd=> ?_⟩
  ·rw[hd1]
   have hw:sA A {x with b:=0} k r e:=⟨h.hr,h.he,h.re,h.hm,h.bs,h.cont,h.zY,h.ph,h.io,h.n⟩
   refine an (vG (bx:=bx) d hw (by omega)) ?_
   rintro p ⟨q1,q2,r',e',q3,q4⟩
   refine⟨q1,q2,d,r',e',⟨q3.win,q3.pos,q3.aar,q3.same,q3.first,q3.last⟩,0,q4,by omega,by omega⟩
  ·have:=of_decide_eq_false hd;omega
def gH(x x':Raw):Prop:=x'={x with buf:=x'.buf,io:=x'.io,b:=x'.b,r:=x'.r,e:=x'.e,m:=x'.m}
theorem gH.refl(x:Raw):gH x x:=rfl
theorem gH.trans{x y z:Raw}(h:gH x y)(h':gH y z):gH x z:=by
 unfold gH at*
 rw[h']
 rw[h]
structure Full(A:Ad)(b:Option Nat)(x:Raw)(p:Nat)(x':Raw):Prop where
 win:∃k r e,sA A x' k r e∧p=k+r∧G8 b x'.b k p∧(r=e->x'.io=true)
 same:gH x x'
 m:x'.m=A.O.size
theorem EC{A:Ad}{x:Raw}{k r e:Nat}(h:sA A x k r e):pM (x.e-x.r)=((e-r:Nat):Int):=by
 have:=h.zZ;have:=h.re
 rw[h.he,h.hr,kY (by omega) (by omega)];omega
theorem Ia{A:Ad}{x:Raw}{k r e:Nat}(h:sA A x k r e):(x.buf.extract x.r.toNat x.e.toNat).size=e-r:=by
 have:=h.zZ;have:=h.bs
 rw[h.he,h.hr,Int.toNat_natCast,Int.toNat_natCast,aA _ _ _ (by omega)]
theorem uv{A:Ad}{x:Raw}{bx:List Value}{k r e:Nat}(h:sA A x k r e){more:af (Ex×E (RY A))}{P:Ex×E (RY A)->Prop}
 (qW:r<e->(Mp A x bx).aD P)(Ke:e-r<4->more.aD P):(lS A x bx more).aD P:=by
 have Vg:=h.re
 have hel:=h.zZ
 have wH:=h.bs
 unfold lS
 rw[EC h,Ia h]
 refine⟨fun h0=>⟨⟨by rw[h.hr];omega,by rw[h.hr,h.he];omega,by rw[h.he];omega⟩,fun h1=>Ke (by have:=of_decide_eq_true h0;omega),fun h1=>⟨qW ?_,Ke (by have:=of_decide_eq_true h0;omega)⟩⟩,fun h0=>qW (by have:=of_decide_eq_false h0;omega)⟩
 have:¬e-r=0:=fun e0=>by rw[e0]at h1;cases h1
 omega
theorem Y9{A:Ad}{x:Raw}{bx:List Value}{k r e:Nat}{b:Option Nat}(h:sA A x k r e)(hb:G8 b x.b k (k+r))(hm:x.m=A.O.size){K:Raw->List Value->Prop}(hK:∀x',Full A b x (k+r) x'->K x' bx)(sd:x.io=true)(n:Nat):
 lT A (n+1) x bx K:=by
 unfold lT
 rw[if_pos sd]
 have hk:=hK x ⟨⟨k,r,e,h,rfl,hb,fun _=>sd⟩,rfl,hm⟩
 exact uv h (fun _=>⟨rfl,hk⟩) (fun _=>⟨rfl,hk⟩)
theorem Y_{A:Ad}{x:Raw}{bx:List Value}{k r e:Nat}{b:Option Nat}(h:sA A x k r e)(hb:G8 b x.b k (k+r))(hm:x.m=A.O.size){K:Raw->List Value->Prop}(hK:∀x',Full A b x (k+r) x'->K x' bx)(sd:x.io=false)(n:Nat):
 lT A (n+2) x bx K:=by
 unfold lT
 rw[if_neg (by simp[sd])]
 refine uv h (fun bz=>⟨rfl,hK x ⟨⟨k,r,e,h,rfl,hb,fun he=>by omega⟩,rfl,hm⟩⟩) (fun _=> ?_)
 unfold vE
 rw[ax]
 refine an (EB h hb) ?_
 rintro p ⟨q1,q2,b0,r',e',hf,fX⟩
 show lT A (n+1) p.2.st p.2.bx K
 rw[q2]
 have hw:=hf.win
 have sC:k+r=(k+b0)+r':=by have:=hf.aar;omega
 rw[sC]at fX
 have hs:gH x p.2.st:=hf.same
 refine Y9 hw fX (hf.last hm).1 (fun x' oD=>hK x' ⟨?_,hs.trans oD.same,oD.m⟩) (hf.last hm).2 n
 obtain⟨k2,r2,e2,g1,g2,g3,g4⟩:=oD.win
 exact⟨k2,r2,e2,g1,by omega,by rw[sC];exact g3,g4⟩
theorem P8{A:Ad}{x:Raw}{bx:List Value}{k r e:Nat}{b:Option Nat}(h:sA A x k r e)(hb:G8 b x.b k (k+r)){K:Raw->List Value->Prop}(hK:∀x',Full A b x (k+r) x'->K x' bx):lT A 4 x bx K:=by
 by_cases hm:x.m=A.O.size
 ·cases sd:x.io with
  |true=>exact Y9 h hb hm hK sd 3
  |false=>exact Y_ h hb hm hK sd 2
 ·have sd:x.io=false:=by
   cases sd:x.io with
   |true=>exact absurd (h.io sd) hm
   |false=>rfl
  have UA:x.m=0:=by rcases h.ph with h1|h1;exact absurd h1 hm;exact h1
  unfold lT
  rw[if_neg (by simp[sd])]
  have hz:=h.hm
  have Vg:=h.re
  refine uv h (fun bz=>by omega) (fun _=> ?_)
  unfold vE
  rw[ax]
  refine an (EB h hb) ?_
  rintro p ⟨q1,q2,b0,r',e',hf,fX⟩
  show lT A 3 p.2.st p.2.bx K
  rw[q2]
  have hw:=hf.win
  have sC:k+r=(k+b0)+r':=by have:=hf.aar;omega
  rw[sC]at fX
  have hs:gH x p.2.st:=hf.same
  have hK':∀x',Full A b p.2.st (k+b0+r') x'->K x' bx:=fun x' oD=>by
   refine hK x' ⟨?_,hs.trans oD.same,oD.m⟩
   obtain⟨k2,r2,e2,g1,g2,g3,g4⟩:=oD.win
   exact⟨k2,r2,e2,g1,by omega,by rw[sC];exact g3,g4⟩
  exact Y_ hw fX (hf.first hm).1 hK' (hf.first hm).2 1
theorem aas{A:Ad}{x:Raw}{k r e:Nat}(h:sA A x k r e)(hm:x.m=A.O.size)(bz:r<e):Lib.decodeGo (x.buf.extract x.r.toNat x.e.toNat)=Utf8.decode A.O (k+r):=by
 have hel:=h.zZ
 have wH:=h.bs
 have Uz:k+e=A.O.size:=by rw[←hm];exact h.hm.symm
 rw[←Lib.decodeGo_extract A.O (k+r) (by omega)]
 congr 1
 rw[h.hr,h.he,Int.toNat_natCast,Int.toNat_natCast]
 have eJ:(x.buf.extract r e).size=(A.O.extract (k+r) A.O.size).size:=by
  rw[aA _ _ _ (by omega),aA _ _ _ (Nat.le_refl _)];omega
 have qY:∀j,j<e-r->(x.buf.extract r e).get! j=(A.O.extract (k+r) A.O.size).get! j:=fun j hj=>by
  rw[a7 _ _ _ _ (by omega) hj,a7 _ _ _ _ (Nat.le_refl _) (by omega),h.cont _ (by omega),Nat.add_assoc]
 apply ByteArray.ext
 apply Array.ext
 ·exact eJ
 ·intro i h1 h2
  have Kb:i<(x.buf.extract r e).size:=h1
  rw[aA _ _ _ (by omega)]at Kb
  have:=qY i Kb
  have e1:(x.buf.extract r e).get! i=(x.buf.extract r e).data[i]:=by show(x.buf.extract r e).data[i]! =_;rw[getElem!_pos _ i h1]
  have e2:(A.O.extract (k+r) A.O.size).get! i=(A.O.extract (k+r) A.O.size).data[i]:=by show(A.O.extract (k+r) A.O.size).data[i]! =_;rw[getElem!_pos _ i h2]
  rw[←e1,←e2];exact this
theorem gz(s:U)(i:Nat):1<=(Utf8.decode s i).2∧(Utf8.decode s i).2<=4:=by
 unfold Utf8.decode
 simp only
 repeat' split
 all_goals simp
theorem km(s:U)(i:Nat)(h:i<s.size):i+(Utf8.decode s i).2<=s.size:=by
 have:=Lib.decodeGo_le_size (s.extract i s.size)
 rw[Lib.decodeGo_extract s i h,aA _ _ _ (Nat.le_refl _)]at this
 omega
theorem b_{n:Int}(h0:0<=n)(h1:n<18446744073709551616):u64 n=n:=by
 show IntKind.u64.wrap n=n
 simp only[IntKind.wrap]
 simp[IntKind.bits,IntKind.signed]
 omega
def ED(A:Ad)(n:Nat)(x:Raw)(bx:List Value)(K:Raw->List Value->Prop):Prop:=(AH A x bx).aD fun xe=>match xe.1 with
 | .ret=>K xe.2.c.st xe.2.c.bx
 | .goto l=>l=0∧lU A n xe.2.c.st xe.2.c.bx K
 | .normal=>lT A 4 xe.2.c.st xe.2.c.bx fun x' Y8=>(Ms A x' Y8).aD fun ye=>match ye.1 with
  | .ret=>K ye.2.c.st ye.2.c.bx
  | .normal=>K ye.2.c.st ye.2.c.bx
  | .goto l=>l=0∧lU A n ye.2.c.st ye.2.c.bx K
  |_=>False
 |_=>False
theorem CB{A:Ad}{n:Nat}{x:Raw}{bx:List Value}{K:Raw->List Value->Prop}{w:Nat}(kE:¬x.ch=10)(hw:x.bD=w)(hw4:w<=4)(h:ED A n {x with aL:=u64 (x.aL+w)} bx K):lU A (n+1) x bx K:=by
 unfold lU pN
 have e:u64 (x.aL+u64 x.bD)=u64 (x.aL+w):=by rw[hw,b_ (n:=(w:Int)) (by omega) (by omega)]
 refine⟨fun h0=>absurd (by simpa using h0) kE,fun _=> ?_⟩
 rw[e]
 exact h
structure adQ(A:Ad)(b:Option Nat)(x:Raw)(R:Rd)(x':Raw):Prop where
 win:∃k r e,sA A x' k r e∧R.p=k+r∧R.bD<=r∧G8 b x'.b k (R.p-R.bD)
 same:gH {x with ch:=R.ch,bD:=R.bD,aL:=R.aM,ab:=R.ab} x'
 m:x'.m=A.O.size
theorem G8.mono{b:Option Nat}{xb:Int}{k p q:Nat}(h:G8 b xb k p)(hq:p<=q):G8 b xb k q:=by
 cases b with
 |none=>exact h
 |some c=>obtain⟨d,h1,h2,h3⟩:=h;exact⟨d,h1,h2,Nat.le_trans h3 hq⟩
theorem sA.with{A:Ad}{x:Raw}{k r e:Nat}(h:sA A x k r e){y:Raw}(h1:y.buf=x.buf)(h2:y.io=x.io)(h3:y.e=x.e)(h4:y.m=x.m){r':Nat}(h5:y.r=r')(h6:r'<=e):sA A y k r' e:=
 ⟨h5,by rw[h3];exact h.he,h6,by rw[h4];exact h.hm,by rw[h1];exact h.bs,by rw[h1];exact h.cont,by rw[h1];exact h.zY,by rw[h4];exact h.ph,by rw[h2,h4];exact h.io,h.n⟩
theorem P9(b:UInt8):IntKind.i32.wrap (b.toNat:Int)=b.toNat:=by
 have:=b.toNat_lt
 rw[IntKind.wrap_i32];omega
theorem gH.upd{x y:Raw}(h:gH x y)(ch:Int)(bD:Int)(aM:Int)(ns:List e_)(r:Int):
 gH {x with ch:=ch,bD:=bD,aL:=aM,ab:=ns} {y with ch:=ch,bD:=bD,aL:=aM,ab:=ns,r:=r}:=by
 unfold gH at*
 rw[h]
theorem uw{s:U}{i:Nat}(h:(s.get! i).toNat<128):Utf8.decode s i=((s.get! i).toNat,1):=by
 unfold Utf8.decode
 simp only[Nat.add_zero]
 rw[if_pos h]
theorem P_{A:Ad}{b:Option Nat}:∀(f n:Nat) (x:Raw) (bx:List Value) (k r e:Nat) (ao:Bool) (K:Raw->List Value->Prop),sA A x k r e->G8 b x.b k (k+r)->
 (ao=true->x.m=0∧A.O.size≠0)->(ao=false->x.m=A.O.size)->A.O.size-(k+r)<f->f<=n+1->
 (∀x',adQ A b x (ak A.O x.aC f ao (k+r) x.aL x.ab) x'->K x' bx)->ED A n x bx K:=by
 intro f
 induction f with
 |zero=>intro n x bx k r e ao K _ _ _ _ h;omega
 |succ f ih=>
  intro n x bx k r e ao K h hb Za EE hfu hn hK
  have Vg:=h.re
  have hel:=h.zZ
  have wH:=h.bs
  have hhm:=h.hm
  have er:x.r.toNat=r:=by rw[h.hr];exact Int.toNat_natCast r
  have ew:pM (x.r+1)=((r+1:Nat):Int):=by rw[h.hr,kY (by omega) (by omega)];omega
  unfold ED AH
  rw[er,P9]
  refine⟨⟨by rw[h.hr];omega,by omega⟩,fun h0=> ?_,fun h0=> ?_⟩
  ·
   have Qa:((x.buf.get! r).toNat:Int)<128:=of_decide_eq_true h0
   have bz:r<e:=by
    rcases Nat.lt_or_ge r e with h1|h1
    ·exact h1
    ·exfalso
     have:r=e:=by omega
     rw[this,h.zY]at Qa
     have akM:((128:UInt8).toNat:Int)=128:=rfl
     omega
   have vH:=h.cont r bz
   have hm:x.m=A.O.size:=by
    rcases h.ph with h1|h1
    ·exact h1
    ·omega
   have qn:ao=false:=by
    cases ao with
    |false=>rfl
    |true=>exact absurd (show A.O.size=0 by have:=(Za rfl).1;omega) (Za rfl).2
   subst qn
   have hp:k+r<A.O.size:=by omega
   have hW:∀y:Raw,y.buf=x.buf->y.io=x.io->y.e=x.e->y.m=x.m->y.r=((r+1:Nat):Int)->sA A y k (r+1) e:=fun y h1 h2 h3 h4 h5=>h.with h1 h2 h3 h4 h5 (by omega)
   rw[vH]at Qa
   have Cj:(A.O.get! (k+r)).toNat<128:=by omega
   rw[vH,ew]
   simp only[ak,if_pos hp,if_pos Cj]at hK
   refine⟨fun h1=> ?_,fun h1=> ?_⟩
   ·have hz:(A.O.get! (k+r)).toNat=0:=by
     have h2:((A.O.get! (k+r)).toNat:Int)=0:=by simpa using h1
     omega
    rw[if_pos (by simp[hz])]at hK
    refine⟨rfl,?_⟩
    cases n with
    |zero=>exfalso;omega
    |succ n=>
     refine CB (w:=1) (by show¬((A.O.get! (k+r)).toNat:Int)=10;rw[hz];decide) rfl (by omega) ?_
     refine ih n _ bx k (r+1) e false K (hW _ rfl rfl rfl rfl rfl) (hb.mono (by omega)) (fun h=>by cases h) (fun _=>hm) (by omega) (by omega) (fun x' hd=>hK x' ⟨hd.win,?_,hd.m⟩)
     exact hd.same
   ·have hz:¬(A.O.get! (k+r)).toNat=0:=fun e0=>by rw[e0]at h1;cases h1
    rw[if_neg (fun h=>hz h.1)]at hK
    refine hK _ ⟨⟨k,r+1,e,hW _ rfl rfl rfl rfl rfl,by simp only;omega,by simp only;omega,?_⟩,rfl,hm⟩
    simp only
    exact hb.mono (by omega)
  ·
   have aat:¬((x.buf.get! r).toNat:Int)<128:=of_decide_eq_false h0
   have hx1:sA A {x with ch:=((x.buf.get! r).toNat:Int)} k r e:=⟨h.hr,h.he,h.re,h.hm,h.bs,h.cont,h.zY,h.ph,h.io,h.n⟩
   show lT A 4 {x with ch:=((x.buf.get! r).toNat:Int)} bx _
   refine P8 hx1 hb (fun y hy=> ?_)
   obtain⟨k2,r2,e2,g1,g2,g3,g4⟩:=hy.win
   have gre:=g1.re
   have gel:=g1.zZ
   have gbs:=g1.bs
   have ghm:=g1.hm
   have gm:=hy.m
   have gs:=hy.same
   unfold Ms Cy
   refine⟨fun h1=> ?_,fun h1=> ?_⟩
   ·have h2:y.r=y.e:=by simpa using h1
    have h3:r2=e2:=by have:=g1.hr;have:=g1.he;omega
    rw[if_pos (g4 h3)]
    have hnp:¬k+r<A.O.size:=by omega
    simp only[ak,if_neg hnp]at hK
    refine hK _ ⟨⟨k2,r2,e2,⟨g1.hr,g1.he,g1.re,g1.hm,g1.bs,g1.cont,g1.zY,g1.ph,g1.io,g1.n⟩,g2,by simp only;omega,?_⟩,?_,gm⟩
    ·simp only
     rw[Nat.sub_zero]
     exact g3
    ·unfold gH at*
     rw[gs];try rfl
   ·have h3:r2<e2:=by
     have h2:¬y.r=y.e:=by simpa using h1
     have:=g1.hr;have:=g1.he;omega
    have hp:k+r<A.O.size:=by omega
    have hpe:k+r=k2+r2:=g2
    have adR:=aas g1 gm h3
    rw[←hpe]at adR
    have hp4:=gz A.O (k+r)
    have ahn:=km A.O (k+r) hp
    rw[adR]
    refine⟨⟨by rw[g1.hr];omega,by rw[g1.hr,g1.he];omega,by rw[g1.he];omega⟩,?_⟩
    generalize hdd:Utf8.decode A.O (k+r)=d at*
    obtain⟨c,w⟩:=d
    simp only at hp4 ahn⊢
    have ew2:pM (y.r+w)=((r2+w:Nat):Int):=by rw[g1.hr,kY (by omega) (by omega)];omega
    rw[ew2]
    have hW:∀z:Raw,z.buf=y.buf->z.io=y.io->z.e=y.e->z.m=y.m->z.r=((r2+w:Nat):Int)->sA A z k2 (r2+w) e2:=fun z h1 h2 h3 h4 h5=>g1.with h1 h2 h3 h4 h5 (by omega)
    have hl0:y.aC=x.aC:=by rw[gs];try rfl
    have Qb:y.aL=x.aL:=by rw[gs];try rfl
    have Pt:y.ab=x.ab:=by rw[gs];try rfl
    have hyb:y.b=y.b:=rfl
    have Ib:(A.O.get! (k+r)).toNat<128->c=(A.O.get! (k+r)).toNat∧w=1∧¬((A.O.get! (k+r)).toNat=0∧ao=false):=by
     intro bz
     have:=uw bz
     rw[hdd]at this
     simp only[Prod.mk.injEq]at this
     refine⟨this.1,this.2,fun⟨_,qn⟩=> ?_⟩
     have hm:=EE qn
     have Pv:r<e:=by omega
     rw[h.cont r Pv]at aat
     omega
    have adS:¬(c=0xFFFD∧w=1)->((Mq A {y with ch:=(c:Int),bD:=(w:Int),r:=((r2+w:Nat):Int)} bx).aD fun ye=>match ye.1 with
     | .ret=>K ye.2.c.st ye.2.c.bx
     | .normal=>K ye.2.c.st ye.2.c.bx
     | .goto l=>l=0∧lU A n ye.2.c.st ye.2.c.bx K
     |_=>False):=by
     intro hnu
     unfold Mq
     refine⟨fun h5=> ?_,fun h5=> ?_⟩
     ·have hc:c=0xFEFF:=by
       have h6:(c:Int)=65279:=by simpa using h5
       omega
      have aau:¬(A.O.get! (k+r)).toNat<128:=fun bz=>by have:=Ib bz;omega
      cases n with
      |zero=>exfalso;omega
      |succ n=>
      have key:∀ns,ns=(if x.aC>0∨x.aL>0 then x.ab++[⟨u64 (1+x.aC),u64 (1+x.aL),qS⟩]else x.ab)->
       lU A (n+1) {y with ch:=(c:Int),bD:=(w:Int),r:=((r2+w:Nat):Int),ab:=ns} bx K:=by
       intro ns aho
       refine CB (w:=w) (by show¬(c:Int)=10;omega) rfl (by omega) ?_
       refine ih n _ bx k2 (r2+w) e2 false K (hW _ rfl rfl rfl rfl rfl) (g3.mono (by omega)) (fun h=>by cases h) (fun _=>gm) (by omega) (by omega) (fun x' hd=>hK x' ?_)
       have hR:ak A.O x.aC (f+1) ao (k+r) x.aL x.ab=ak A.O y.aC f false (k2+(r2+w)) (u64 (y.aL+w)) ns:=by
        simp only[ak,if_pos hp,if_neg aau,hdd,if_neg hnu,if_pos hc,hl0,Qb,aho]
        rw[show k+r+w=k2+(r2+w) from by omega]
       refine⟨?_,?_,hd.m⟩
       ·rw[hR];exact hd.win
       ·rw[hR]
        refine gH.trans ?_ hd.same
        unfold gH at*
        rw[gs];try rfl
      refine⟨fun h6=>⟨rfl,?_⟩,fun h6=>⟨fun h7=>⟨rfl,?_⟩,fun h7=>⟨rfl,?_⟩⟩⟩
      ·have h8:y.aC>0:=of_decide_eq_true h6
       have:=key _ (if_pos (.inl (by rw[←hl0];exact h8))).symm
       rw[←hl0,←Qb,←Pt]at this
       exact this
      ·have h8:y.aL>0:=of_decide_eq_true h7
       have:=key _ (if_pos (.inr (by rw[←Qb];exact h8))).symm
       rw[←hl0,←Qb,←Pt]at this
       exact this
      ·have h8:¬y.aC>0:=of_decide_eq_false h6
       have h9:¬y.aL>0:=of_decide_eq_false h7
       have:=key _ (if_neg (by rw[←hl0,←Qb];exact fun h=>h.elim h8 h9)).symm
       rw[←Pt]at this
       exact this
     ·have hc:¬c=0xFEFF:=fun e0=>by rw[e0]at h5;cases h5
      refine hK _ ?_
      have hR:ak A.O x.aC (f+1) ao (k+r) x.aL x.ab=⟨k+r+w,x.aL,c,w,x.ab⟩:=by
       by_cases bz:(A.O.get! (k+r)).toNat<128
       ·obtain⟨h7,h8,h9⟩:=Ib bz
        simp only[ak,if_pos hp,if_pos bz,if_neg h9,h7,h8]
       ·simp only[ak,if_pos hp,if_neg bz,hdd,if_neg hnu,if_neg hc]
      rw[hR]
      refine⟨⟨k2,r2+w,e2,hW _ rfl rfl rfl rfl rfl,by simp only;omega,by simp only;omega,?_⟩,?_,gm⟩
      ·simp only
       rw[show k+r+w-w=k+r from by omega]
       exact g3
      ·simp only
       unfold gH at*
       rw[gs];try rfl
    unfold Ka
    refine⟨fun h4=>⟨fun h5=> ?_,fun h5=> ?_⟩,fun h4=> ?_⟩
    ·
     have hc:c=0xFFFD:=by
      have h6:(c:Int)=65533:=by simpa using h4
      omega
     have Cs:w=1:=by
      have h6:(w:Int)=1:=by simpa using h5
      omega
     have aau:¬(A.O.get! (k+r)).toNat<128:=fun bz=>by have:=Ib bz;omega
     refine⟨rfl,?_⟩
     cases n with
     |zero=>exfalso;omega
     |succ n=>
     have hR:ak A.O x.aC (f+1) ao (k+r) x.aL x.ab=ak A.O y.aC f false (k2+(r2+w)) (u64 (y.aL+w)) (y.ab++[⟨u64 (1+y.aC),u64 (1+y.aL),xP⟩]):=by
      simp only[ak,if_pos hp,if_neg aau,hdd,if_pos (And.intro hc Cs),hl0,Qb,Pt]
      rw[Cs,show k+r+1=k2+(r2+1) from by omega]
      rfl
     refine CB (w:=w) (by show¬(c:Int)=10;omega) rfl (by omega) ?_
     refine ih n _ bx k2 (r2+w) e2 false K (hW _ rfl rfl rfl rfl rfl) (g3.mono (by omega)) (fun h=>by cases h) (fun _=>gm) (by omega) (by omega) (fun x' hd=>hK x' ?_)
     refine⟨?_,?_,hd.m⟩
     ·rw[hR];exact hd.win
     ·rw[hR]
      refine gH.trans ?_ hd.same
      unfold gH at*
      rw[gs];try rfl
    ·exact adS (fun⟨_,h6⟩=>by rw[h6]at h5;cases h5)
    ·exact adS (fun⟨h6,_⟩=>by rw[h6]at h4;cases h4)
end
end Sc
end Go.Proofs.YtogkcphobhhbdaaGreatDoor
