/- The scanner of the program told as plain functions, part 2: texts joined by a program (wip/tools/shake.py), without what this claim does not reach. -/
import Derived.Test.YtogkcphobhhbdaaDoorBk1
import Derived.Test.YtogkcphobhhbdaaDoorProg
import Derived.WalkKit
import Derived.Deep.QuietTactic
import Derived.BigQuiet
import Derived.Lib.Hide
import Derived.Shelf.Unicode.DecodeAny
import Derived.Shelf.Lays7
import Derived.Shelf.Spec.DecodeRune
import Derived.Shelf.Strings.MapAny
import Derived.Handy
import Derived.Lib.ConvBytes
import Derived.Shelf.Unicode.PredsPay
set_option linter.unusedVariables false
set_option linter.unusedSimpArgs false
/- source.fill by evaluation. -/
namespace Go.Proofs.YtogkcphobhhbdaaDoor
open Go Go.RowKit Go.Lib
namespace Sc
open Ev
set_option maxRecDepth 100000
noncomputable def readS (A : Ad) : Smy (FY A) := ⟨142, #[], false, readG A⟩
theorem readS_ok (A : Ad) (hA : A.Ok) : (readS A).Ok := ⟨fun args w => by kernel_rfl, read_ok A hA, read_mono A⟩
theorem read_mth (a : Addr) (args : Array Value) (w : World) : (callMethod (.iface 91 (.pointer (some a))) "Read" args).run Tryd.prog w = .ok (.enter 142 (#[.pointer (some a)] ++ args)) w := by
  have hmt : (method (Tryd.prog.types.size + Made.depth) 91 (.pointer (some a)) "Read").run Tryd.prog w = .ok (142, .pointer (some a)) w := by kernel_rfl
  have hc : ∀ x, (callFunc 142 x).run Tryd.prog w = .ok (.enter 142 x) w := fun x => by kernel_rfl
  simp only [callMethod, Sem.run_bind, program, Sem.run_pure, Result.andThen_ok]
  have hp : (Sem.program Sem.pure).run Tryd.prog w = .ok Tryd.prog w := rfl
  rw [hp]
  simp only [Result.andThen_ok]
  rw [hmt]
  exact hc _
noncomputable def cfgF (A : Ad) (N : Nat) : Cfg (FY A) := ⟨N, [], [], [], [], [(91, "Read", readS A)], 1⟩
theorem cfgF_ok (A : Ad) (hA : A.Ok) (N : Nat) : (cfgF A N).Ok where
  sums := fun p hp => by cases hp
  still := fun p hp => by cases hp
  fns := fun p hp => by cases hp
  mths := fun p hp => by
    obtain rfl : p = (91, "Read", readS A) := by simpa [cfgF] using hp
    refine ⟨readS_ok A hA, rfl, read_noAny A, fun a args w => ?_⟩
    have := read_mth a args w
    show Sem.run Tryd.prog _ w = Result.ok (Next.enter 142 (#[.pointer (some a)] ++ args ++ #[])) w
    rw [Array.append_empty]
    exact this
abbrev w64 (n : Int) : Int := IntKind.i64.wrap n
noncomputable def fillFin (A : Ad) (x : Raw) (bx : List Value) (n : Int) : Tree (SV × Core (FY A)) :=
  .req (0 ≤ w64 (x.e + n) ∧ (w64 (x.e + n)).toNat < 4096) (.req (0 + (w64 (x.e + n)).toNat < 4096)
    (.leaf (.val (.tuple #[]), ⟨{ x with e := w64 (x.e + n), buf := x.buf.set! (0 + (w64 (x.e + n)).toNat) 128 }, bx⟩)))
noncomputable def fillTail (A : Ad) (x : Raw) (bx : List Value) : Tree (SV × Core (FY A)) :=
  .test (decide ((0 : Int) < 10))
    (.req (0 ≤ x.e ∧ x.e ≤ w64 ((4096 : Nat) - 1) ∧ w64 ((4096 : Nat) - 1) ≤ ((4096 : Nat) : Int) ∧ 4096 ≤ 4096 ∧ x.e.toNat < 4096)
      (.req ("Read" = "Read") (.req (Value.pointer (some ⟨A.rd, 0, none⟩) = .pointer (some ⟨A.rd, 0, none⟩))
        (.test (Nat.beq x.m A.src.size)
          (.test (decide ((0 : Int) < 0)) .fail (.test (decide ((0 : Int) > 0)) (fillFin A { x with io := true } bx 0) (fillFin A { x with io := true } bx 0)))
          (.req (x.m = 0 ∧ A.src.size ≤ (w64 ((4096 : Nat) - 1)).toNat - x.e.toNat ∧ 0 + x.e.toNat + A.src.size ≤ 4096)
            (.test (decide ((A.src.size : Int) < 0)) .fail (.test (decide ((A.src.size : Int) > 0)) (fillFin A { x with io := false, m := A.src.size, buf := lay x.buf (0 + x.e.toNat) A.src } bx A.src.size) .fail)))))))
    (.req (0 ≤ x.e ∧ x.e.toNat < 4096) (.req (0 + x.e.toNat < 4096) .fail))
noncomputable def fillMid (A : Ad) (x : Raw) (bx : List Value) (b : Int) : Tree (SV × Core (FY A)) :=
  .req (0 ≤ b ∧ b ≤ x.e ∧ x.e ≤ ((4096 : Nat) : Int) ∧ 4096 ≤ 4096 ∧ b.toNat < 4096)
    (.test (decide (w64 (((x.e.toNat - b.toNat : Nat) : Int) * 2) > ((4096 : Nat) : Int))) .fail
      (.test (decide (b > 0))
        (.req (0 + Nat.min (x.e.toNat - b.toNat) 4096 ≤ 4096 ∧ 0 + b.toNat + Nat.min (x.e.toNat - b.toNat) 4096 ≤ 4096)
          (fillTail A { x with buf := blit x.buf 0 (0 + b.toNat) (Nat.min (x.e.toNat - b.toNat) 4096), r := w64 (x.r - b), e := w64 (x.e - b) } bx))
        (fillTail A { x with r := w64 (x.r - b), e := w64 (x.e - b) } bx)))
noncomputable def fillT (A : Ad) (x : Raw) (bx : List Value) : Tree (SV × Core (FY A)) :=
  .test (decide (x.b ≥ 0)) (fillMid A { x with b := 0 } bx x.b) (fillMid A x bx x.r)
theorem fill_ev (A : Ad) (x : Raw) (bx : List Value) : evFn (cfgF A Tryd.f94.ntmps) Tryd.f94 [.st 0] ⟨x, bx⟩ = fillT A x bx := by kernel_rfl
theorem fill_okF (A : Ad) (hA : A.Ok) : SumOk (FY A) 94 #[] true (evFn (cfgF A Tryd.f94.ntmps) Tryd.f94) :=
  fn_sound (FLaws A hA) (cfgF_ok A hA Tryd.f94.ntmps) Tryd.func94
theorem fill_sat (A : Ad) (x : Raw) (bx : List Value) (Q : SV × Core (FY A) → Prop) (h : (fillT A x bx).sat Q) : (evFn (cfgF A Tryd.f94.ntmps) Tryd.f94 [.st 0] ⟨x, bx⟩).sat Q := by
  rw [fill_ev]; exact h
/-- fill, as the reading view sees it. -/
noncomputable def fillG (A : Ad) (args : List SV) (c : Core (RY A)) : Tree (SV × Core (RY A)) :=
  match args with
  | [.st 0] => (fillT A c.st c.bx).bind fun p => .leaf (.val (.tuple #[]), ⟨p.2.st, p.2.bx⟩)
  | _ => .fail
theorem fillFin_unit {A : Ad} {x : Raw} {bx : List Value} {n : Int} {Q : SV × Core (FY A) → Prop} (h : (fillFin A x bx n).sat Q) : (fillFin A x bx n).sat fun p => p.1 = .val (.tuple #[]) ∧ Q p :=
  ⟨h.1, h.2.1, rfl, h.2.2⟩
theorem fillTail_unit {A : Ad} {x : Raw} {bx : List Value} {Q : SV × Core (FY A) → Prop} (h : (fillTail A x bx).sat Q) : (fillTail A x bx).sat fun p => p.1 = .val (.tuple #[]) ∧ Q p := by
  unfold fillTail at *
  refine ⟨fun h0 => ?_, fun h0 => ?_⟩
  · obtain ⟨h1, h2, h3, h4⟩ := h.1 h0
    refine ⟨h1, h2, h3, fun h5 => ?_, fun h5 => ?_⟩
    · have h6 := h4.1 h5
      exact ⟨h6.1, fun h7 => ⟨fun h8 => fillFin_unit ((h6.2 h7).1 h8), fun h8 => fillFin_unit ((h6.2 h7).2 h8)⟩⟩
    · have h6 := h4.2 h5
      exact ⟨h6.1, h6.2.1, fun h7 => ⟨fun h8 => fillFin_unit ((h6.2.2 h7).1 h8), (h6.2.2 h7).2⟩⟩
  · exact (h.2 h0).2.2.elim
theorem fillMid_unit {A : Ad} {x : Raw} {bx : List Value} {b : Int} {Q : SV × Core (FY A) → Prop} (h : (fillMid A x bx b).sat Q) : (fillMid A x bx b).sat fun p => p.1 = .val (.tuple #[]) ∧ Q p := by
  unfold fillMid at *
  refine ⟨h.1, h.2.1, fun h1 => ?_⟩
  have h2 := h.2.2 h1
  exact ⟨fun h3 => ⟨(h2.1 h3).1, fillTail_unit (h2.1 h3).2⟩, fun h3 => fillTail_unit (h2.2 h3)⟩
theorem fillT_unit {A : Ad} {x : Raw} {bx : List Value} {Q : SV × Core (FY A) → Prop} (h : (fillT A x bx).sat Q) : (fillT A x bx).sat fun p => p.1 = .val (.tuple #[]) ∧ Q p :=
  ⟨fun h0 => fillMid_unit (h.1 h0), fun h0 => fillMid_unit (h.2 h0)⟩
theorem invC_yy {A : Ad} {bl : List Nat} {x : Raw} {bx : List Value} {w : World} (h : InvC (RY A) bl ⟨x, bx⟩ w) : InvC (FY A) bl ⟨x, bx⟩ w := ⟨h.inv, h.len, h.nd, h.cell, h.free⟩
theorem invC_yy' {A : Ad} {bl : List Nat} {x : Raw} {bx : List Value} {w : World} (h : InvC (FY A) bl ⟨x, bx⟩ w) : InvC (RY A) bl ⟨x, bx⟩ w := ⟨h.inv, h.len, h.nd, h.cell, h.free⟩
theorem ext_yy {A : Ad} {bl bl' : List Nat} {w w' : World} (h : Ext (FY A) bl bl' w w') : Ext (RY A) bl bl' w w' := ⟨⟨h.fr.os, h.fr.tape, h.fr.output, h.fr.size, h.fr.ty, h.fr.keep⟩, h.pre, h.new⟩
theorem fill_ok (A : Ad) (hA : A.Ok) : SumOk (RY A) 94 #[] true (fillG A) := by
  intro args c bl w vals Q hargs hc h
  unfold fillG at h
  split at h
  · rw [sat_bind] at h
    have h' := fill_sat A c.st c.bx _ (fillT_unit h)
    have hargs' : Rels (FY A) bl w [.st 0] vals := by
      cases hargs with
      | cons h1 hr => cases hr; exact .cons h1 .nil
    refine (fill_okF A hA [.st 0] ⟨c.st, c.bx⟩ bl w vals _ hargs' (invC_yy hc) h').mono ?_
    rintro e w' (⟨sv, c', v, bl', ⟨h1, h2⟩, rfl, hrel, hinv, hext, _⟩ | ⟨rfl, p, ⟨h1, h2⟩, hb⟩)
    · simp only at h1
      subst h1
      exact .inl ⟨_, _, v, bl', h2, rfl, hrel, invC_yy' hinv, ext_yy hext, fun h => by cases h⟩
    · exact .inr ⟨rfl, _, h2, hb⟩
  · exact h.elim
theorem fill_mono (A : Ad) (hA : A.Ok) : GMono (Y := RY A) (fillG A) := by
  intro args c Q hb h
  unfold fillG at h
  split at h
  · rw [sat_bind] at h
    obtain ⟨p, hp, hb'⟩ := fn_mono (FLaws A hA) (cfgF_ok A hA Tryd.f94.ntmps) [.st 0] ⟨c.st, c.bx⟩ _ hb (fill_sat A c.st c.bx _ h)
    exact ⟨_, hp, hb'⟩
  · exact h.elim
end Sc
end Go.Proofs.YtogkcphobhhbdaaDoor

/- utf8.FullRune: it answers, and no text is no rune. -/
namespace Go.Proofs.YtogkcphobhhbdaaDoor
open Go Go.RowKit Go.Lib
namespace Sc
set_option maxRecDepth 100000
theorem below_alloc_drewN {w : World} (o : Obj) (n : Nat) : Below w.heap.size w ((w.alloc o).drewN n) := by
  have h : Below w.heap.size w (w.alloc o) := (Below.refl _ _).alloc (Nat.le_refl _) o
  exact ⟨h.os, h.tape, h.output, h.size, h.block⟩
/-- The answer of utf8.FullRune, whichever it is. -/
def Answers (n : Nat) (w : World) (e : Ending) (w' : World) : Prop := (∃ r : Bool, e = .returned (.bool r) ∧ (n = 0 → r = false)) ∧ Below w.heap.size w w'
theorem full_2_1 (b off cap : Nat) (x0 : Nat) (w : World) (c0 : w.cell? ⟨b, off, none⟩ = some (.int .u8 x0)) (hx : 0 ≤ (x0 : Int)) (hx2 : (x0 : Int) < 256)
    (cf : w.cell? ⟨7, x0, none⟩ = some (.int .u8 2)) (a0 : w.cell? ⟨8, 0, none⟩ = some (.int .u8 128)) (a1 : w.cell? ⟨8, 1, none⟩ = some (.int .u8 191)) :
    Calls Tryd.prog 93 #[.slice (some ⟨b, off, none⟩) 1 cap] w (Answers 1 w) := by
  (go_enter Tryd.func93, Tryd.ntmps93; go_wp2_with fail; go_quiet (fail); go_wp2_with fail; go_ret; exact ⟨⟨_, rfl, fun h => absurd h (by decide)⟩, below_alloc_drewN _ _⟩)
theorem full_19_1 (b off cap : Nat) (x0 : Nat) (w : World) (c0 : w.cell? ⟨b, off, none⟩ = some (.int .u8 x0)) (hx : 0 ≤ (x0 : Int)) (hx2 : (x0 : Int) < 256)
    (cf : w.cell? ⟨7, x0, none⟩ = some (.int .u8 19)) (a0 : w.cell? ⟨8, 2, none⟩ = some (.int .u8 160)) (a1 : w.cell? ⟨8, 3, none⟩ = some (.int .u8 191)) :
    Calls Tryd.prog 93 #[.slice (some ⟨b, off, none⟩) 1 cap] w (Answers 1 w) := by
  (go_enter Tryd.func93, Tryd.ntmps93; go_wp2_with fail; go_quiet (fail); go_wp2_with fail; go_ret; exact ⟨⟨_, rfl, fun h => absurd h (by decide)⟩, below_alloc_drewN _ _⟩)
theorem full_19_2 (b off cap : Nat) (x0 : Nat) (x1 : Nat) (w : World) (c0 : w.cell? ⟨b, off, none⟩ = some (.int .u8 x0)) (c1 : w.cell? ⟨b, off + 1, none⟩ = some (.int .u8 x1)) (hx : 0 ≤ (x0 : Int)) (hx2 : (x0 : Int) < 256)
    (cf : w.cell? ⟨7, x0, none⟩ = some (.int .u8 19)) (a0 : w.cell? ⟨8, 2, none⟩ = some (.int .u8 160)) (a1 : w.cell? ⟨8, 3, none⟩ = some (.int .u8 191)) :
    Calls Tryd.prog 93 #[.slice (some ⟨b, off, none⟩) 2 cap] w (Answers 2 w) := by
  have d1 : ∀ o, (w.alloc o).cell? ⟨b, off + 1, none⟩ = some (.int .u8 x1) := fun o => by rw [World.cell?_alloc_lt _ _ _ (World.block_lt_of_cell? w _ c1)]; exact c1
  rcases (by omega : ((x1 : Int) < 160 ∧ ¬ ((191 : Int) < x1)) ∨ (¬ ((x1 : Int) < 160) ∧ ¬ ((191 : Int) < x1)) ∨ (¬ ((x1 : Int) < 160) ∧ (191 : Int) < x1)) with ⟨h1, h2⟩ | ⟨h1, h2⟩ | ⟨h1, h2⟩
  all_goals ((try have dh1 : decide ((x1 : Int) < 160) = false := by simpa using h1); (try have dh2 : decide ((191 : Int) < x1) = false := by simpa using h2))
  all_goals (go_enter Tryd.func93, Tryd.ntmps93; go_wp2_with fail; go_quiet (fail); go_wp2_with fail; go_ret; exact ⟨⟨_, rfl, fun h => absurd h (by decide)⟩, below_alloc_drewN _ _⟩)
theorem full_3_1 (b off cap : Nat) (x0 : Nat) (w : World) (c0 : w.cell? ⟨b, off, none⟩ = some (.int .u8 x0)) (hx : 0 ≤ (x0 : Int)) (hx2 : (x0 : Int) < 256)
    (cf : w.cell? ⟨7, x0, none⟩ = some (.int .u8 3)) (a0 : w.cell? ⟨8, 0, none⟩ = some (.int .u8 128)) (a1 : w.cell? ⟨8, 1, none⟩ = some (.int .u8 191)) :
    Calls Tryd.prog 93 #[.slice (some ⟨b, off, none⟩) 1 cap] w (Answers 1 w) := by
  (go_enter Tryd.func93, Tryd.ntmps93; go_wp2_with fail; go_quiet (fail); go_wp2_with fail; go_ret; exact ⟨⟨_, rfl, fun h => absurd h (by decide)⟩, below_alloc_drewN _ _⟩)
theorem full_3_2 (b off cap : Nat) (x0 : Nat) (x1 : Nat) (w : World) (c0 : w.cell? ⟨b, off, none⟩ = some (.int .u8 x0)) (c1 : w.cell? ⟨b, off + 1, none⟩ = some (.int .u8 x1)) (hx : 0 ≤ (x0 : Int)) (hx2 : (x0 : Int) < 256)
    (cf : w.cell? ⟨7, x0, none⟩ = some (.int .u8 3)) (a0 : w.cell? ⟨8, 0, none⟩ = some (.int .u8 128)) (a1 : w.cell? ⟨8, 1, none⟩ = some (.int .u8 191)) :
    Calls Tryd.prog 93 #[.slice (some ⟨b, off, none⟩) 2 cap] w (Answers 2 w) := by
  have d1 : ∀ o, (w.alloc o).cell? ⟨b, off + 1, none⟩ = some (.int .u8 x1) := fun o => by rw [World.cell?_alloc_lt _ _ _ (World.block_lt_of_cell? w _ c1)]; exact c1
  rcases (by omega : ((x1 : Int) < 128 ∧ ¬ ((191 : Int) < x1)) ∨ (¬ ((x1 : Int) < 128) ∧ ¬ ((191 : Int) < x1)) ∨ (¬ ((x1 : Int) < 128) ∧ (191 : Int) < x1)) with ⟨h1, h2⟩ | ⟨h1, h2⟩ | ⟨h1, h2⟩
  all_goals ((try have dh1 : decide ((x1 : Int) < 128) = false := by simpa using h1); (try have dh2 : decide ((191 : Int) < x1) = false := by simpa using h2))
  all_goals (go_enter Tryd.func93, Tryd.ntmps93; go_wp2_with fail; go_quiet (fail); go_wp2_with fail; go_ret; exact ⟨⟨_, rfl, fun h => absurd h (by decide)⟩, below_alloc_drewN _ _⟩)
theorem full_35_1 (b off cap : Nat) (x0 : Nat) (w : World) (c0 : w.cell? ⟨b, off, none⟩ = some (.int .u8 x0)) (hx : 0 ≤ (x0 : Int)) (hx2 : (x0 : Int) < 256)
    (cf : w.cell? ⟨7, x0, none⟩ = some (.int .u8 35)) (a0 : w.cell? ⟨8, 4, none⟩ = some (.int .u8 128)) (a1 : w.cell? ⟨8, 5, none⟩ = some (.int .u8 159)) :
    Calls Tryd.prog 93 #[.slice (some ⟨b, off, none⟩) 1 cap] w (Answers 1 w) := by
  (go_enter Tryd.func93, Tryd.ntmps93; go_wp2_with fail; go_quiet (fail); go_wp2_with fail; go_ret; exact ⟨⟨_, rfl, fun h => absurd h (by decide)⟩, below_alloc_drewN _ _⟩)
theorem full_35_2 (b off cap : Nat) (x0 : Nat) (x1 : Nat) (w : World) (c0 : w.cell? ⟨b, off, none⟩ = some (.int .u8 x0)) (c1 : w.cell? ⟨b, off + 1, none⟩ = some (.int .u8 x1)) (hx : 0 ≤ (x0 : Int)) (hx2 : (x0 : Int) < 256)
    (cf : w.cell? ⟨7, x0, none⟩ = some (.int .u8 35)) (a0 : w.cell? ⟨8, 4, none⟩ = some (.int .u8 128)) (a1 : w.cell? ⟨8, 5, none⟩ = some (.int .u8 159)) :
    Calls Tryd.prog 93 #[.slice (some ⟨b, off, none⟩) 2 cap] w (Answers 2 w) := by
  have d1 : ∀ o, (w.alloc o).cell? ⟨b, off + 1, none⟩ = some (.int .u8 x1) := fun o => by rw [World.cell?_alloc_lt _ _ _ (World.block_lt_of_cell? w _ c1)]; exact c1
  rcases (by omega : ((x1 : Int) < 128 ∧ ¬ ((159 : Int) < x1)) ∨ (¬ ((x1 : Int) < 128) ∧ ¬ ((159 : Int) < x1)) ∨ (¬ ((x1 : Int) < 128) ∧ (159 : Int) < x1)) with ⟨h1, h2⟩ | ⟨h1, h2⟩ | ⟨h1, h2⟩
  all_goals ((try have dh1 : decide ((x1 : Int) < 128) = false := by simpa using h1); (try have dh2 : decide ((159 : Int) < x1) = false := by simpa using h2))
  all_goals (go_enter Tryd.func93, Tryd.ntmps93; go_wp2_with fail; go_quiet (fail); go_wp2_with fail; go_ret; exact ⟨⟨_, rfl, fun h => absurd h (by decide)⟩, below_alloc_drewN _ _⟩)
theorem full_52_1 (b off cap : Nat) (x0 : Nat) (w : World) (c0 : w.cell? ⟨b, off, none⟩ = some (.int .u8 x0)) (hx : 0 ≤ (x0 : Int)) (hx2 : (x0 : Int) < 256)
    (cf : w.cell? ⟨7, x0, none⟩ = some (.int .u8 52)) (a0 : w.cell? ⟨8, 6, none⟩ = some (.int .u8 144)) (a1 : w.cell? ⟨8, 7, none⟩ = some (.int .u8 191)) :
    Calls Tryd.prog 93 #[.slice (some ⟨b, off, none⟩) 1 cap] w (Answers 1 w) := by
  (go_enter Tryd.func93, Tryd.ntmps93; go_wp2_with fail; go_quiet (fail); go_wp2_with fail; go_ret; exact ⟨⟨_, rfl, fun h => absurd h (by decide)⟩, below_alloc_drewN _ _⟩)
theorem full_52_2 (b off cap : Nat) (x0 : Nat) (x1 : Nat) (w : World) (c0 : w.cell? ⟨b, off, none⟩ = some (.int .u8 x0)) (c1 : w.cell? ⟨b, off + 1, none⟩ = some (.int .u8 x1)) (hx : 0 ≤ (x0 : Int)) (hx2 : (x0 : Int) < 256)
    (cf : w.cell? ⟨7, x0, none⟩ = some (.int .u8 52)) (a0 : w.cell? ⟨8, 6, none⟩ = some (.int .u8 144)) (a1 : w.cell? ⟨8, 7, none⟩ = some (.int .u8 191)) :
    Calls Tryd.prog 93 #[.slice (some ⟨b, off, none⟩) 2 cap] w (Answers 2 w) := by
  have d1 : ∀ o, (w.alloc o).cell? ⟨b, off + 1, none⟩ = some (.int .u8 x1) := fun o => by rw [World.cell?_alloc_lt _ _ _ (World.block_lt_of_cell? w _ c1)]; exact c1
  rcases (by omega : ((x1 : Int) < 144 ∧ ¬ ((191 : Int) < x1)) ∨ (¬ ((x1 : Int) < 144) ∧ ¬ ((191 : Int) < x1)) ∨ (¬ ((x1 : Int) < 144) ∧ (191 : Int) < x1)) with ⟨h1, h2⟩ | ⟨h1, h2⟩ | ⟨h1, h2⟩
  all_goals ((try have dh1 : decide ((x1 : Int) < 144) = false := by simpa using h1); (try have dh2 : decide ((191 : Int) < x1) = false := by simpa using h2))
  all_goals (go_enter Tryd.func93, Tryd.ntmps93; go_wp2_with fail; go_quiet (fail); go_wp2_with fail; go_ret; exact ⟨⟨_, rfl, fun h => absurd h (by decide)⟩, below_alloc_drewN _ _⟩)
theorem full_52_3 (b off cap : Nat) (x0 : Nat) (x1 : Nat) (x2 : Nat) (w : World) (c0 : w.cell? ⟨b, off, none⟩ = some (.int .u8 x0)) (c1 : w.cell? ⟨b, off + 1, none⟩ = some (.int .u8 x1)) (c2 : w.cell? ⟨b, off + 2, none⟩ = some (.int .u8 x2)) (hx : 0 ≤ (x0 : Int)) (hx2 : (x0 : Int) < 256)
    (cf : w.cell? ⟨7, x0, none⟩ = some (.int .u8 52)) (a0 : w.cell? ⟨8, 6, none⟩ = some (.int .u8 144)) (a1 : w.cell? ⟨8, 7, none⟩ = some (.int .u8 191)) :
    Calls Tryd.prog 93 #[.slice (some ⟨b, off, none⟩) 3 cap] w (Answers 3 w) := by
  have d1 : ∀ o, (w.alloc o).cell? ⟨b, off + 1, none⟩ = some (.int .u8 x1) := fun o => by rw [World.cell?_alloc_lt _ _ _ (World.block_lt_of_cell? w _ c1)]; exact c1
  have d2 : ∀ o, (w.alloc o).cell? ⟨b, off + 2, none⟩ = some (.int .u8 x2) := fun o => by rw [World.cell?_alloc_lt _ _ _ (World.block_lt_of_cell? w _ c2)]; exact c2
  rcases (by omega : ((x1 : Int) < 144 ∧ ¬ ((191 : Int) < x1)) ∨ (¬ ((x1 : Int) < 144) ∧ ¬ ((191 : Int) < x1)) ∨ (¬ ((x1 : Int) < 144) ∧ (191 : Int) < x1)) with ⟨h1, h2⟩ | ⟨h1, h2⟩ | ⟨h1, h2⟩
  all_goals rcases (by omega : ((x2 : Int) < 128 ∧ ¬ ((191 : Int) < x2)) ∨ (¬ ((x2 : Int) < 128) ∧ ¬ ((191 : Int) < x2)) ∨ (¬ ((x2 : Int) < 128) ∧ (191 : Int) < x2)) with ⟨g1, g2⟩ | ⟨g1, g2⟩ | ⟨g1, g2⟩
  all_goals ((try have dh1 : decide ((x1 : Int) < 144) = false := by simpa using h1); (try have dh2 : decide ((191 : Int) < x1) = false := by simpa using h2); (try have dg1 : decide ((x2 : Int) < 128) = false := by simpa using g1); (try have dg2 : decide ((191 : Int) < x2) = false := by simpa using g2))
  all_goals (go_enter Tryd.func93, Tryd.ntmps93; go_wp2_with fail; go_quiet (fail); go_wp2_with fail; go_ret; exact ⟨⟨_, rfl, fun h => absurd h (by decide)⟩, below_alloc_drewN _ _⟩)
theorem full_4_1 (b off cap : Nat) (x0 : Nat) (w : World) (c0 : w.cell? ⟨b, off, none⟩ = some (.int .u8 x0)) (hx : 0 ≤ (x0 : Int)) (hx2 : (x0 : Int) < 256)
    (cf : w.cell? ⟨7, x0, none⟩ = some (.int .u8 4)) (a0 : w.cell? ⟨8, 0, none⟩ = some (.int .u8 128)) (a1 : w.cell? ⟨8, 1, none⟩ = some (.int .u8 191)) :
    Calls Tryd.prog 93 #[.slice (some ⟨b, off, none⟩) 1 cap] w (Answers 1 w) := by
  (go_enter Tryd.func93, Tryd.ntmps93; go_wp2_with fail; go_quiet (fail); go_wp2_with fail; go_ret; exact ⟨⟨_, rfl, fun h => absurd h (by decide)⟩, below_alloc_drewN _ _⟩)
theorem full_4_2 (b off cap : Nat) (x0 : Nat) (x1 : Nat) (w : World) (c0 : w.cell? ⟨b, off, none⟩ = some (.int .u8 x0)) (c1 : w.cell? ⟨b, off + 1, none⟩ = some (.int .u8 x1)) (hx : 0 ≤ (x0 : Int)) (hx2 : (x0 : Int) < 256)
    (cf : w.cell? ⟨7, x0, none⟩ = some (.int .u8 4)) (a0 : w.cell? ⟨8, 0, none⟩ = some (.int .u8 128)) (a1 : w.cell? ⟨8, 1, none⟩ = some (.int .u8 191)) :
    Calls Tryd.prog 93 #[.slice (some ⟨b, off, none⟩) 2 cap] w (Answers 2 w) := by
  have d1 : ∀ o, (w.alloc o).cell? ⟨b, off + 1, none⟩ = some (.int .u8 x1) := fun o => by rw [World.cell?_alloc_lt _ _ _ (World.block_lt_of_cell? w _ c1)]; exact c1
  rcases (by omega : ((x1 : Int) < 128 ∧ ¬ ((191 : Int) < x1)) ∨ (¬ ((x1 : Int) < 128) ∧ ¬ ((191 : Int) < x1)) ∨ (¬ ((x1 : Int) < 128) ∧ (191 : Int) < x1)) with ⟨h1, h2⟩ | ⟨h1, h2⟩ | ⟨h1, h2⟩
  all_goals ((try have dh1 : decide ((x1 : Int) < 128) = false := by simpa using h1); (try have dh2 : decide ((191 : Int) < x1) = false := by simpa using h2))
  all_goals (go_enter Tryd.func93, Tryd.ntmps93; go_wp2_with fail; go_quiet (fail); go_wp2_with fail; go_ret; exact ⟨⟨_, rfl, fun h => absurd h (by decide)⟩, below_alloc_drewN _ _⟩)
theorem full_4_3 (b off cap : Nat) (x0 : Nat) (x1 : Nat) (x2 : Nat) (w : World) (c0 : w.cell? ⟨b, off, none⟩ = some (.int .u8 x0)) (c1 : w.cell? ⟨b, off + 1, none⟩ = some (.int .u8 x1)) (c2 : w.cell? ⟨b, off + 2, none⟩ = some (.int .u8 x2)) (hx : 0 ≤ (x0 : Int)) (hx2 : (x0 : Int) < 256)
    (cf : w.cell? ⟨7, x0, none⟩ = some (.int .u8 4)) (a0 : w.cell? ⟨8, 0, none⟩ = some (.int .u8 128)) (a1 : w.cell? ⟨8, 1, none⟩ = some (.int .u8 191)) :
    Calls Tryd.prog 93 #[.slice (some ⟨b, off, none⟩) 3 cap] w (Answers 3 w) := by
  have d1 : ∀ o, (w.alloc o).cell? ⟨b, off + 1, none⟩ = some (.int .u8 x1) := fun o => by rw [World.cell?_alloc_lt _ _ _ (World.block_lt_of_cell? w _ c1)]; exact c1
  have d2 : ∀ o, (w.alloc o).cell? ⟨b, off + 2, none⟩ = some (.int .u8 x2) := fun o => by rw [World.cell?_alloc_lt _ _ _ (World.block_lt_of_cell? w _ c2)]; exact c2
  rcases (by omega : ((x1 : Int) < 128 ∧ ¬ ((191 : Int) < x1)) ∨ (¬ ((x1 : Int) < 128) ∧ ¬ ((191 : Int) < x1)) ∨ (¬ ((x1 : Int) < 128) ∧ (191 : Int) < x1)) with ⟨h1, h2⟩ | ⟨h1, h2⟩ | ⟨h1, h2⟩
  all_goals rcases (by omega : ((x2 : Int) < 128 ∧ ¬ ((191 : Int) < x2)) ∨ (¬ ((x2 : Int) < 128) ∧ ¬ ((191 : Int) < x2)) ∨ (¬ ((x2 : Int) < 128) ∧ (191 : Int) < x2)) with ⟨g1, g2⟩ | ⟨g1, g2⟩ | ⟨g1, g2⟩
  all_goals ((try have dh1 : decide ((x1 : Int) < 128) = false := by simpa using h1); (try have dh2 : decide ((191 : Int) < x1) = false := by simpa using h2); (try have dg1 : decide ((x2 : Int) < 128) = false := by simpa using g1); (try have dg2 : decide ((191 : Int) < x2) = false := by simpa using g2))
  all_goals (go_enter Tryd.func93, Tryd.ntmps93; go_wp2_with fail; go_quiet (fail); go_wp2_with fail; go_ret; exact ⟨⟨_, rfl, fun h => absurd h (by decide)⟩, below_alloc_drewN _ _⟩)
theorem full_68_1 (b off cap : Nat) (x0 : Nat) (w : World) (c0 : w.cell? ⟨b, off, none⟩ = some (.int .u8 x0)) (hx : 0 ≤ (x0 : Int)) (hx2 : (x0 : Int) < 256)
    (cf : w.cell? ⟨7, x0, none⟩ = some (.int .u8 68)) (a0 : w.cell? ⟨8, 8, none⟩ = some (.int .u8 128)) (a1 : w.cell? ⟨8, 9, none⟩ = some (.int .u8 143)) :
    Calls Tryd.prog 93 #[.slice (some ⟨b, off, none⟩) 1 cap] w (Answers 1 w) := by
  (go_enter Tryd.func93, Tryd.ntmps93; go_wp2_with fail; go_quiet (fail); go_wp2_with fail; go_ret; exact ⟨⟨_, rfl, fun h => absurd h (by decide)⟩, below_alloc_drewN _ _⟩)
theorem full_68_2 (b off cap : Nat) (x0 : Nat) (x1 : Nat) (w : World) (c0 : w.cell? ⟨b, off, none⟩ = some (.int .u8 x0)) (c1 : w.cell? ⟨b, off + 1, none⟩ = some (.int .u8 x1)) (hx : 0 ≤ (x0 : Int)) (hx2 : (x0 : Int) < 256)
    (cf : w.cell? ⟨7, x0, none⟩ = some (.int .u8 68)) (a0 : w.cell? ⟨8, 8, none⟩ = some (.int .u8 128)) (a1 : w.cell? ⟨8, 9, none⟩ = some (.int .u8 143)) :
    Calls Tryd.prog 93 #[.slice (some ⟨b, off, none⟩) 2 cap] w (Answers 2 w) := by
  have d1 : ∀ o, (w.alloc o).cell? ⟨b, off + 1, none⟩ = some (.int .u8 x1) := fun o => by rw [World.cell?_alloc_lt _ _ _ (World.block_lt_of_cell? w _ c1)]; exact c1
  rcases (by omega : ((x1 : Int) < 128 ∧ ¬ ((143 : Int) < x1)) ∨ (¬ ((x1 : Int) < 128) ∧ ¬ ((143 : Int) < x1)) ∨ (¬ ((x1 : Int) < 128) ∧ (143 : Int) < x1)) with ⟨h1, h2⟩ | ⟨h1, h2⟩ | ⟨h1, h2⟩
  all_goals ((try have dh1 : decide ((x1 : Int) < 128) = false := by simpa using h1); (try have dh2 : decide ((143 : Int) < x1) = false := by simpa using h2))
  all_goals (go_enter Tryd.func93, Tryd.ntmps93; go_wp2_with fail; go_quiet (fail); go_wp2_with fail; go_ret; exact ⟨⟨_, rfl, fun h => absurd h (by decide)⟩, below_alloc_drewN _ _⟩)
theorem full_68_3 (b off cap : Nat) (x0 : Nat) (x1 : Nat) (x2 : Nat) (w : World) (c0 : w.cell? ⟨b, off, none⟩ = some (.int .u8 x0)) (c1 : w.cell? ⟨b, off + 1, none⟩ = some (.int .u8 x1)) (c2 : w.cell? ⟨b, off + 2, none⟩ = some (.int .u8 x2)) (hx : 0 ≤ (x0 : Int)) (hx2 : (x0 : Int) < 256)
    (cf : w.cell? ⟨7, x0, none⟩ = some (.int .u8 68)) (a0 : w.cell? ⟨8, 8, none⟩ = some (.int .u8 128)) (a1 : w.cell? ⟨8, 9, none⟩ = some (.int .u8 143)) :
    Calls Tryd.prog 93 #[.slice (some ⟨b, off, none⟩) 3 cap] w (Answers 3 w) := by
  have d1 : ∀ o, (w.alloc o).cell? ⟨b, off + 1, none⟩ = some (.int .u8 x1) := fun o => by rw [World.cell?_alloc_lt _ _ _ (World.block_lt_of_cell? w _ c1)]; exact c1
  have d2 : ∀ o, (w.alloc o).cell? ⟨b, off + 2, none⟩ = some (.int .u8 x2) := fun o => by rw [World.cell?_alloc_lt _ _ _ (World.block_lt_of_cell? w _ c2)]; exact c2
  rcases (by omega : ((x1 : Int) < 128 ∧ ¬ ((143 : Int) < x1)) ∨ (¬ ((x1 : Int) < 128) ∧ ¬ ((143 : Int) < x1)) ∨ (¬ ((x1 : Int) < 128) ∧ (143 : Int) < x1)) with ⟨h1, h2⟩ | ⟨h1, h2⟩ | ⟨h1, h2⟩
  all_goals rcases (by omega : ((x2 : Int) < 128 ∧ ¬ ((191 : Int) < x2)) ∨ (¬ ((x2 : Int) < 128) ∧ ¬ ((191 : Int) < x2)) ∨ (¬ ((x2 : Int) < 128) ∧ (191 : Int) < x2)) with ⟨g1, g2⟩ | ⟨g1, g2⟩ | ⟨g1, g2⟩
  all_goals ((try have dh1 : decide ((x1 : Int) < 128) = false := by simpa using h1); (try have dh2 : decide ((143 : Int) < x1) = false := by simpa using h2); (try have dg1 : decide ((x2 : Int) < 128) = false := by simpa using g1); (try have dg2 : decide ((191 : Int) < x2) = false := by simpa using g2))
  all_goals (go_enter Tryd.func93, Tryd.ntmps93; go_wp2_with fail; go_quiet (fail); go_wp2_with fail; go_ret; exact ⟨⟨_, rfl, fun h => absurd h (by decide)⟩, below_alloc_drewN _ _⟩)
theorem full_small (x : Int) (hx : x = 240 ∨ x = 241) (n b off cap : Nat) (x0 : Nat) (w : World) (c0 : w.cell? ⟨b, off, none⟩ = some (.int .u8 x0)) (hx2 : (x0 : Int) < 256)
    (cf : w.cell? ⟨7, x0, none⟩ = some (.int .u8 x)) (hn1 : (0 : Int) < (n : Int)) (hn2 : (1 : Int) ≤ (n : Int)) (hz : ((n : Int) == 0) = false) :
    Calls Tryd.prog 93 #[.slice (some ⟨b, off, none⟩) n cap] w (Answers n w) := by
  rcases hx with rfl | rfl
  all_goals (go_enter Tryd.func93, Tryd.ntmps93; go_wp2_with fail; go_ret; exact ⟨⟨_, rfl, fun h => by omega⟩, Below.refl _ _⟩)
theorem full_long (x k : Int) (hx : (x = 2 ∧ k = 2) ∨ (x = 19 ∧ k = 3) ∨ (x = 3 ∧ k = 3) ∨ (x = 35 ∧ k = 3) ∨ (x = 52 ∧ k = 4) ∨ (x = 4 ∧ k = 4) ∨ (x = 68 ∧ k = 4)) (n b off cap : Nat) (x0 : Nat) (w : World) (c0 : w.cell? ⟨b, off, none⟩ = some (.int .u8 x0)) (hx2 : (x0 : Int) < 256)
    (cf : w.cell? ⟨7, x0, none⟩ = some (.int .u8 x)) (hk : k ≤ (n : Int)) (hn1 : (0 : Int) < (n : Int)) (hz : ((n : Int) == 0) = false) :
    Calls Tryd.prog 93 #[.slice (some ⟨b, off, none⟩) n cap] w (Answers n w) := by
  rcases hx with ⟨rfl, rfl⟩ | ⟨rfl, rfl⟩ | ⟨rfl, rfl⟩ | ⟨rfl, rfl⟩ | ⟨rfl, rfl⟩ | ⟨rfl, rfl⟩ | ⟨rfl, rfl⟩
  all_goals (go_enter Tryd.func93, Tryd.ntmps93; go_wp2_with fail; go_ret; exact ⟨⟨_, rfl, fun h => by omega⟩, Below.refl _ _⟩)
theorem full_none (A : Option Addr) (cap : Nat) (w : World) :
    Calls Tryd.prog 93 #[.slice A 0 cap] w (Answers 0 w) := by
  go_enter Tryd.func93, Tryd.ntmps93
  go_wp2
  go_ret
  exact ⟨⟨_, rfl, fun _ => rfl⟩, Below.refl _ _⟩
theorem fullRune_walk (s : ByteArray) (b off cap : Nat) (w : World) (hT : Lib.Utf8Tabs 7 8 w)
    (hp : ∀ j, j < s.size → w.cell? ⟨b, off + j, none⟩ = some (.int .u8 (s.get! j).toNat)) :
    Calls Tryd.prog 93 #[.slice (some ⟨b, off, none⟩) s.size cap] w (Answers s.size w) := by
  by_cases h0 : s.size = 0
  · rw [h0]; exact full_none _ _ _
  · have hn1 : (0 : Int) < (s.size : Int) := by omega
    have c0 := hp 0 (by omega)
    simp only [Nat.add_zero] at c0
    have hb0 : (s.get! 0).toNat < 256 := (s.get! 0).toNat_lt
    have cf := hT.1 _ hb0
    have hz : ((s.size : Int) == 0) = false := beq_eq_false_iff_ne.2 (by omega)
    have acc := hT.2
    rcases firstT_cases (s.get! 0).toNat with hx | hx | hx | hx | hx | hx | hx | hx | hx <;> rw [hx] at cf
    · exact full_small _ (.inl rfl) _ b off cap _ w c0 (by omega) cf hn1 (by omega) hz
    · exact full_small _ (.inr rfl) _ b off cap _ w c0 (by omega) cf hn1 (by omega) hz
    · by_cases hk : (2 : Int) ≤ (s.size : Int)
      · exact full_long _ 2 (by simp) _ b off cap _ w c0 (by omega) cf hk hn1 hz
      · have hs : s.size = 1 := by omega
        rw [hs]; exact full_2_1 b off cap _ w c0 (by omega) (by omega) cf (acc 0 (by decide)).1 (acc 0 (by decide)).2
    · by_cases hk : (3 : Int) ≤ (s.size : Int)
      · exact full_long _ 3 (by simp) _ b off cap _ w c0 (by omega) cf hk hn1 hz
      · have hs : s.size = 1 ∨ s.size = 2 := by omega
        rcases hs with hs | hs
        · rw [hs]; exact full_19_1 b off cap _ w c0 (by omega) (by omega) cf (acc 1 (by decide)).1 (acc 1 (by decide)).2
        · rw [hs]; exact full_19_2 b off cap _ _ w c0 (hp 1 (by omega)) (by omega) (by omega) cf (acc 1 (by decide)).1 (acc 1 (by decide)).2
    · by_cases hk : (3 : Int) ≤ (s.size : Int)
      · exact full_long _ 3 (by simp) _ b off cap _ w c0 (by omega) cf hk hn1 hz
      · have hs : s.size = 1 ∨ s.size = 2 := by omega
        rcases hs with hs | hs
        · rw [hs]; exact full_3_1 b off cap _ w c0 (by omega) (by omega) cf (acc 0 (by decide)).1 (acc 0 (by decide)).2
        · rw [hs]; exact full_3_2 b off cap _ _ w c0 (hp 1 (by omega)) (by omega) (by omega) cf (acc 0 (by decide)).1 (acc 0 (by decide)).2
    · by_cases hk : (3 : Int) ≤ (s.size : Int)
      · exact full_long _ 3 (by simp) _ b off cap _ w c0 (by omega) cf hk hn1 hz
      · have hs : s.size = 1 ∨ s.size = 2 := by omega
        rcases hs with hs | hs
        · rw [hs]; exact full_35_1 b off cap _ w c0 (by omega) (by omega) cf (acc 2 (by decide)).1 (acc 2 (by decide)).2
        · rw [hs]; exact full_35_2 b off cap _ _ w c0 (hp 1 (by omega)) (by omega) (by omega) cf (acc 2 (by decide)).1 (acc 2 (by decide)).2
    · by_cases hk : (4 : Int) ≤ (s.size : Int)
      · exact full_long _ 4 (by simp) _ b off cap _ w c0 (by omega) cf hk hn1 hz
      · have hs : s.size = 1 ∨ s.size = 2 ∨ s.size = 3 := by omega
        rcases hs with hs | hs | hs
        · rw [hs]; exact full_52_1 b off cap _ w c0 (by omega) (by omega) cf (acc 3 (by decide)).1 (acc 3 (by decide)).2
        · rw [hs]; exact full_52_2 b off cap _ _ w c0 (hp 1 (by omega)) (by omega) (by omega) cf (acc 3 (by decide)).1 (acc 3 (by decide)).2
        · rw [hs]; exact full_52_3 b off cap _ _ _ w c0 (hp 1 (by omega)) (hp 2 (by omega)) (by omega) (by omega) cf (acc 3 (by decide)).1 (acc 3 (by decide)).2
    · by_cases hk : (4 : Int) ≤ (s.size : Int)
      · exact full_long _ 4 (by simp) _ b off cap _ w c0 (by omega) cf hk hn1 hz
      · have hs : s.size = 1 ∨ s.size = 2 ∨ s.size = 3 := by omega
        rcases hs with hs | hs | hs
        · rw [hs]; exact full_4_1 b off cap _ w c0 (by omega) (by omega) cf (acc 0 (by decide)).1 (acc 0 (by decide)).2
        · rw [hs]; exact full_4_2 b off cap _ _ w c0 (hp 1 (by omega)) (by omega) (by omega) cf (acc 0 (by decide)).1 (acc 0 (by decide)).2
        · rw [hs]; exact full_4_3 b off cap _ _ _ w c0 (hp 1 (by omega)) (hp 2 (by omega)) (by omega) (by omega) cf (acc 0 (by decide)).1 (acc 0 (by decide)).2
    · by_cases hk : (4 : Int) ≤ (s.size : Int)
      · exact full_long _ 4 (by simp) _ b off cap _ w c0 (by omega) cf hk hn1 hz
      · have hs : s.size = 1 ∨ s.size = 2 ∨ s.size = 3 := by omega
        rcases hs with hs | hs | hs
        · rw [hs]; exact full_68_1 b off cap _ w c0 (by omega) (by omega) cf (acc 4 (by decide)).1 (acc 4 (by decide)).2
        · rw [hs]; exact full_68_2 b off cap _ _ w c0 (hp 1 (by omega)) (by omega) (by omega) cf (acc 4 (by decide)).1 (acc 4 (by decide)).2
        · rw [hs]; exact full_68_3 b off cap _ _ _ w c0 (hp 1 (by omega)) (hp 2 (by omega)) (by omega) (by omega) cf (acc 4 (by decide)).1 (acc 4 (by decide)).2
end Sc
end Go.Proofs.YtogkcphobhhbdaaDoor

/-
  DERIVED: THE SHELF's CONTRACTS AT THIS DUMP, IN PLAIN WORDS (tools/lay-plain.mjs out of 'TrydShelf7.lean', which tools/lay-shelf.mjs wrote): THE SAME DECLARATIONS UNDER THE SAME NAMES: 'import', 'namespace', 'open', 'def', 'theorem' AND NOTHING ELSE: no command of the shelf's: FOR A HAND-IN. Each laying: the table of numbers ('.._ren') and one theorem, a field a fact of the dump's own or the kernel's comparison; each contract: ONE APPLICATION.
-/
namespace Go.Proofs
open Go.Shelf
def Tryd.lays7_32_ren : Go.Shelf.Ren := ⟨fun | 32 => 95 | 49 => 112 | n => n, fun | 30 => 45 | 21 => 21 | 3 => 3 | 0 => 0 | 5 => 5 | 4 => 4 | 33 => 134 | 66 => 115 | 25 => 55 | 69 => 153 | 68 => 152 | n => n, fun | 2 => 7 | 3 => 8 | n => n⟩
theorem Tryd.lays7_32 : Go.Proofs.Lays7.n32 Tryd.prog Tryd.lays7_32_ren := {
  mixed := by kernel_rfl
  f32 := Tryd.func95.trans (congrArg some (by kernel_rfl))
  f49 := Tryd.func112.trans (congrArg some (by kernel_rfl))
  t0 := Tryd.underlying0
  a0 := Tryd.isAgg0
  z0 := Tryd.sizeOf0
  v0 := Tryd.zeroValue0
  i0 := by kernel_rfl
  t3 := Tryd.underlying3
  a3 := Tryd.isAgg3
  z3 := Tryd.sizeOf3
  v3 := Tryd.zeroValue3
  i3 := by kernel_rfl
  t4 := Tryd.underlying4
  a4 := Tryd.isAgg4
  z4 := Tryd.sizeOf4
  v4 := Tryd.zeroValue4
  i4 := by kernel_rfl
  t5 := Tryd.underlying5
  a5 := Tryd.isAgg5
  z5 := Tryd.sizeOf5
  v5 := Tryd.zeroValue5
  i5 := by kernel_rfl
  t21 := Tryd.underlying21
  a21 := Tryd.isAgg21
  z21 := Tryd.sizeOf21
  v21 := Tryd.zeroValue21
  i21 := by kernel_rfl
  t25 := Tryd.underlying55
  a25 := Tryd.isAgg55
  z25 := Tryd.sizeOf55
  v25 := Tryd.zeroValue55
  i25 := by kernel_rfl
  t30 := Tryd.underlying45
  a30 := Tryd.isAgg45
  z30 := Tryd.sizeOf45
  v30 := Tryd.zeroValue45
  i30 := by kernel_rfl
  t33 := Tryd.underlying134
  a33 := Tryd.isAgg134
  z33 := Tryd.sizeOf134
  v33 := Tryd.zeroValue134
  i33 := by kernel_rfl
  t66 := Tryd.underlying115
  a66 := Tryd.isAgg115
  z66 := Tryd.sizeOf115
  t68 := Tryd.underlying152
  a68 := Tryd.isAgg152
  z68 := Tryd.sizeOf152
  v68 := Tryd.zeroValue152
  i68 := by kernel_rfl
  t69 := Tryd.underlying153
  a69 := Tryd.isAgg153
  z69 := Tryd.sizeOf153
  v69 := Tryd.zeroValue153
  i69 := by kernel_rfl
  g2 := by kernel_rfl
  g3 := by kernel_rfl }
open Go.RowKit Go.Lib in
theorem Tryd.utf8_DecodeRune (s : ByteArray) (b off cap : Nat) (w : World) (hT : Lib.Utf8Tabs 7 8 w)
    (hp : ∀ j, j < s.size → w.cell? ⟨b, off + j, none⟩ = some (.int .u8 (s.get! j).toNat)) :
    Calls Tryd.prog 95 #[.slice (some ⟨b, off, none⟩) s.size cap] w fun e w' => e = .returned (.tuple #[.int .i32 (Lib.decodeGo s).1, .int .i64 (Lib.decodeGo s).2]) ∧ Below w.heap.size w w' := Any7.utf8_DecodeRune Tryd.lays7_32 s b off cap w hT hp
end Go.Proofs

/- What nextch calls, as the reading view sees it: error, utf8.FullRune, utf8.DecodeRune. -/
namespace Go.Proofs.YtogkcphobhhbdaaDoor
open Go Go.RowKit
namespace Sc
open Ev
set_option maxRecDepth 100000
theorem tabs_at {A : Ad} {x : Raw} {w : World} (h : RInv A x w) : Lib.Utf8Tabs 7 8 w := by
  have hs := h.ok.glob.size
  obtain ⟨h1, h2⟩ := h.ok.glob.utf8
  refine ⟨fun i hi => ?_, fun i hi => ?_⟩
  · rw [h.below.cell (by show 7 < A.w0.heap.size; omega)]; exact h1 i hi
  · rw [h.below.cell (by show 8 < A.w0.heap.size; omega), h.below.cell (by show 8 < A.w0.heap.size; omega)]; exact h2 i hi
noncomputable def fullG (A : Ad) (args : List SV) (c : Core (RY A)) : Tree (SV × Core (RY A)) :=
  match args with
  | [.seg bs] => .test (Nat.beq bs.size 0) (.leaf (.ff, c)) (.any (.leaf (.tt, c)) (.leaf (.ff, c)))
  | _ => .fail
theorem full_mono (A : Ad) : GMono (Y := RY A) (fullG A) := by
  intro args c Q hb h
  unfold fullG at h
  split at h
  · rename_i bs
    cases hz : Nat.beq bs.size 0 with
    | true => exact ⟨_, h.1 hz, hb⟩
    | false => exact ⟨_, (h.2 hz).1, hb⟩
  · exact h.elim
theorem full_ok (A : Ad) (hA : A.Ok) : SumOk (RY A) 93 #[] false (fullG A) := by
  intro args c bl w vals Q hargs hc h
  unfold fullG at h
  split at h
  · rename_i bs
    cases hargs with
    | cons h1 hr =>
      cases hr
      have hI : RInv A c.st w := hc.inv
      obtain ⟨o, cap, hcap, rfl, hcell⟩ := h1
      refine (fullRune_walk bs A.buf o cap w (tabs_at hI) hcell).mono ?_
      rintro e w' ⟨⟨r, rfl, hz⟩, hB⟩
      have hinv : InvC (RY A) bl c w' := invC_below (A := A) hc (hI.kept (kept_below hI hB)) hB
      have hseg : ∀ m, w'.cell? ⟨(RY A).B, m, none⟩ = w.cell? ⟨(RY A).B, m, none⟩ := fun m => by
        have hlt := ((RLaws A hA).lt hc.inv).2
        simp only [World.cell?, hB.block _ hlt]
      cases hbz : Nat.beq bs.size 0 with
      | true =>
        have := hz (Nat.eq_of_beq_eq_true hbz)
        subst this
        exact .inl ⟨_, _, _, bl, h.1 hbz, rfl, rfl, hinv, (fr_below hB bl).ext, fun _ => hseg⟩
      | false =>
        obtain ⟨h1, h2⟩ := h.2 hbz
        cases r with
        | true => exact .inl ⟨_, _, _, bl, h1, rfl, rfl, hinv, (fr_below hB bl).ext, fun _ => hseg⟩
        | false => exact .inl ⟨_, _, _, bl, h2, rfl, rfl, hinv, (fr_below hB bl).ext, fun _ => hseg⟩
  · exact h.elim
noncomputable def decG (A : Ad) (args : List SV) (c : Core (RY A)) : Tree (SV × Core (RY A)) :=
  match args with
  | [.seg bs] => .leaf (.val (.tuple #[.int .i32 (Lib.decodeGo bs).1, .int .i64 (Lib.decodeGo bs).2]), c)
  | _ => .fail
theorem dec_mono (A : Ad) : GMono (Y := RY A) (decG A) := by
  intro args c Q hb h
  unfold decG at h
  split at h
  · exact ⟨_, h, hb⟩
  · exact h.elim
theorem dec_quiet (A : Ad) (args : List SV) (c : Core (RY A)) : (decG A args c).quiet c := by
  unfold decG
  split
  · rfl
  · trivial
theorem dec_ok (A : Ad) (hA : A.Ok) : SumOk (RY A) 95 #[] false (decG A) := by
  intro args c bl w vals Q hargs hc h
  unfold decG at h
  split at h
  · rename_i bs
    cases hargs with
    | cons h1 hr =>
      cases hr
      have hI : RInv A c.st w := hc.inv
      obtain ⟨o, cap, hcap, rfl, hcell⟩ := h1
      refine (Tryd.utf8_DecodeRune bs A.buf o cap w (tabs_at hI) hcell).mono ?_
      rintro e w' ⟨rfl, hB⟩
      exact .inl ⟨_, c, _, bl, h, rfl, rfl, invC_below (A := A) hc (hI.kept (kept_below hI hB)) hB, (fr_below hB bl).ext, fun _ m => by
        have hlt := ((RLaws A hA).lt hc.inv).2
        simp only [World.cell?, hB.block _ hlt]⟩
  · exact h.elim
noncomputable def errhS (A : Ad) : Smy (RY A) := ⟨51, #[.pointer (some ⟨A.e, 0, none⟩)], false, errhG A⟩
theorem errhS_ok (A : Ad) (hA : A.Ok) : (errhS A).Ok := ⟨fun args w => by kernel_rfl, errh_ok A hA, errh_mono A⟩
noncomputable def cfg0 (A : Ad) (N : Nat) : Cfg (RY A) := ⟨N, [], [(0, errhS A)], [], [], [], 0⟩
theorem cfg0_ok (A : Ad) (hA : A.Ok) (N : Nat) : (cfg0 A N).Ok where
  sums := fun p hp => by cases hp
  still := fun p hp => by cases hp
  fns := fun p hp => by
    obtain rfl : p = (0, errhS A) := by simpa [cfg0] using hp
    exact ⟨errhS_ok A hA, rfl⟩
  mths := fun p hp => by cases hp
noncomputable def posG (A : Ad) (args : List SV) (c : Core (RY A)) : Tree (SV × Core (RY A)) :=
  match args with
  | [.st 0] => .leaf (.val (.tuple #[.int .u64 (u64 (1 + c.st.line0)), .int .u64 (u64 (1 + c.st.col0))]), c)
  | _ => .fail
theorem pos_ev (A : Ad) (c : Core (RY A)) : evFn (cfg0 A Tryd.f70.ntmps) Tryd.f70 [.st 0] c = posG A [.st 0] c := by kernel_rfl
noncomputable def posS (A : Ad) : Smy (RY A) := ⟨70, #[], true, posG A⟩
theorem posS_ok (A : Ad) (hA : A.Ok) : (posS A).Ok := by
  have key : ∀ args c (Q : SV × Core (RY A) → Prop), (posG A args c).sat Q → (evFn (cfg0 A Tryd.f70.ntmps) Tryd.f70 args c).sat Q := fun args c Q h => by
    unfold posG at h
    split at h
    · rw [pos_ev]; exact h
    · exact h.elim
  exact ⟨fun args w => by kernel_rfl, (fn_sound (RLaws A hA) (cfg0_ok A hA _) Tryd.func70).refine key, (fn_mono (RLaws A hA) (cfg0_ok A hA _)).refine key⟩
noncomputable def cfg1 (A : Ad) (N : Nat) : Cfg (RY A) := ⟨N, [(70, posS A)], [(0, errhS A)], [], [], [], 0⟩
theorem cfg1_ok (A : Ad) (hA : A.Ok) (N : Nat) : (cfg1 A N).Ok where
  sums := fun p hp => by
    obtain rfl : p = (70, posS A) := by simpa [cfg1] using hp
    exact ⟨posS_ok A hA, rfl, rfl⟩
  still := fun p hp h => by cases h
  fns := fun p hp => by
    obtain rfl : p = (0, errhS A) := by simpa [cfg1] using hp
    exact ⟨errhS_ok A hA, rfl⟩
  mths := fun p hp => by cases hp
noncomputable def errG (A : Ad) (args : List SV) (c : Core (RY A)) : Tree (SV × Core (RY A)) :=
  match args with
  | [.st 0, .val (.string m)] => .leaf (.val (.tuple #[]), ⟨addNote c.st ⟨u64 (1 + c.st.line0), u64 (1 + c.st.col0), m⟩, c.bx⟩)
  | _ => .fail

--EV theorem err_ev (A : Ad) (c : Core (RY A)) (m : ByteArray) : evFn (cfg1 A Tryd.f92.ntmps) Tryd.f92 [.st 0, .val (.string m)] c = errG A [.st 0, .val (.string m)] c := by kernel_rfl
end Sc
end Go.Proofs.YtogkcphobhhbdaaDoor

/- A small evaluator of the model's code over known state. Generic part 11: loops and scopes with fuel, told by the evaluator itself. -/
namespace Go.Proofs.YtogkcphobhhbdaaDoor
open Go Go.RowKit
namespace Ev
set_option maxRecDepth 100000
/-- Only these slots are kept in mind. -/
def keepT (tm : List (Nat × SV)) : List Nat → List (Nat × SV)
  | [] => []
  | i :: r => (i, look tm i) :: keepT tm r
def trim {Y : Sys} (keep : List Nat) (e : E Y) : E Y := ⟨e.c, keepT e.tm keep⟩
theorem keep_look (tm : List (Nat × SV)) (i : Nat) : ∀ keep, look (keepT tm keep) i = .junk ∨ look (keepT tm keep) i = look tm i
  | [] => .inl rfl
  | j :: r => by
    simp only [keepT, look_cons]
    by_cases h : i = j
    · rw [if_pos h, h]; exact .inr rfl
    · rw [if_neg h]; exact keep_look tm i r
theorem weak_trim {Y : Sys} (keep : List Nat) (e : E Y) : Weak e (trim keep e) := ⟨rfl, fun i => keep_look e.tm i keep⟩
def loopT {Y : Sys} (C : Cfg Y) (b : Code) (id : Nat) (keep : List Nat) : Nat → E Y → Tree (Ex × E Y)
  | 0, _ => .fail
  | n + 1, e => (evCode C b e).bind fun xe => match xe.1 with
    | .normal => loopT C b id keep n (trim keep xe.2)
    | .exit i => bif Nat.beq i id then .leaf (.normal, trim keep xe.2) else .leaf xe
    | _ => .leaf xe
theorem loopT_mono {Y : Sys} (hY : Laws Y) {C : Cfg Y} (hC : C.Ok) {b : Code} {id : Nat} {keep : List Nat} : ∀ (n : Nat) (e : E Y) (Q : Ex × E Y → Prop), Y.big e.c.st → (loopT C b id keep n e).sat Q → ∃ q, Q q ∧ Y.big q.2.c.st
  | 0, e, Q, _, h => h.elim
  | n + 1, e, Q, hb, h => by
    simp only [loopT, sat_bind] at h
    obtain ⟨⟨x1, e1⟩, h1, hb1⟩ := code_mono hY hC b e _ hb h
    obtain ⟨⟩ | ⟨i⟩ | ⟨l⟩ | ⟨⟩ := x1
    · exact loopT_mono hY hC n (trim keep e1) Q hb1 h1
    · simp only at h1
      cases hi : Nat.beq i id with
      | true => rw [hi] at h1; exact ⟨_, h1, hb1⟩
      | false => rw [hi] at h1; exact ⟨_, h1, hb1⟩
    · exact ⟨_, h1, hb1⟩
    · exact ⟨_, h1, hb1⟩
theorem blk_loop {Y : Sys} (hY : Laws Y) {C : Cfg Y} (hC : C.Ok) {b : Code} {id : Nat} (keep : List Nat) (fuel : E Y → Nat) :
    BlkOk Y C.N id (.loop b) fun e => loopT C b id keep (fuel e) (trim keep e) := by
  refine ⟨fun e bl a w Q hI h => ?_, fun e Q hb h => loopT_mono hY hC (fuel e) (trim keep e) Q hb h⟩
  refine loop_sound hY hC (fun p : Nat × E Y => p.2) (fun p => p.1) (fun p => loopT C b id keep p.1 p.2) (fun p Q hs => ?_) (fun p Q hb hs => loopT_mono hY hC _ _ _ hb hs) (fuel e, trim keep e) Q bl a w (hI.weak (weak_trim keep e)) h
  obtain ⟨n, e1⟩ := p
  cases n with
  | zero => exact hs.elim
  | succ n =>
    simp only [loopT, sat_bind] at hs
    refine sat_mono hs ?_
    rintro ⟨x, e2⟩ hq
    obtain ⟨⟩ | ⟨i⟩ | ⟨l⟩ | ⟨⟩ := x
    · exact ⟨(n, trim keep e2), weak_trim keep e2, Nat.lt_succ_self n, hq⟩
    · simp only at hq ⊢
      by_cases hi : i = id
      · subst hi
        rw [if_pos rfl]
        have : Nat.beq i i = true := by simp
        rw [this] at hq
        exact ⟨_, weak_trim keep e2, hq⟩
      · rw [if_neg hi]
        have : Nat.beq i id = false := by
          cases hb : Nat.beq i id with
          | false => rfl
          | true => exact absurd (Nat.eq_of_beq_eq_true hb) hi
        rw [this] at hq
        exact hq
    · exact hq
    · exact hq
def scopeT {Y : Sys} (C : Cfg Y) (b : Code) (keep : List Nat) : Nat → Nat → E Y → Tree (Ex × E Y)
  | 0, _, _ => .fail
  | n + 1, l, e => match findLabel b l with
    | none => .fail
    | some r => (evCode C r e).bind fun xe => match xe.1 with
      | .goto l' => scopeT C b keep n l' (trim keep xe.2)
      | _ => .leaf xe
theorem scopeT_mono {Y : Sys} (hY : Laws Y) {C : Cfg Y} (hC : C.Ok) {b : Code} {keep : List Nat} : ∀ (n l : Nat) (e : E Y) (Q : Ex × E Y → Prop), Y.big e.c.st → (scopeT C b keep n l e).sat Q → ∃ q, Q q ∧ Y.big q.2.c.st
  | 0, l, e, Q, _, h => h.elim
  | n + 1, l, e, Q, hb, h => by
    unfold scopeT at h
    split at h
    · exact h.elim
    · rename_i r _
      simp only [sat_bind] at h
      obtain ⟨⟨x1, e1⟩, h1, hb1⟩ := code_mono hY hC r e _ hb h
      obtain ⟨⟩ | ⟨i⟩ | ⟨l'⟩ | ⟨⟩ := x1
      · exact ⟨_, h1, hb1⟩
      · exact ⟨_, h1, hb1⟩
      · exact scopeT_mono hY hC n l' (trim keep e1) Q hb1 h1
      · exact ⟨_, h1, hb1⟩
def scopeG {Y : Sys} (C : Cfg Y) (b : Code) (keep : List Nat) (fuel : E Y → Nat) (e : E Y) : Tree (Ex × E Y) :=
  (evCode C b e).bind fun xe => match xe.1 with
    | .goto l' => scopeT C b keep (fuel e) l' (trim keep xe.2)
    | _ => .leaf xe
theorem code_scope {Y : Sys} (hY : Laws Y) {C : Cfg Y} (hC : C.Ok) {b : Code} (keep : List Nat) (fuel : E Y → Nat) : CodeOk Y C.N (.scope b) (scopeG C b keep fuel) := by
  refine scope_sound hY hC (fun l (p : Nat × E Y) => p.2) (fun l p => p.1) (fun l p => scopeT C b keep p.1 l p.2) (fun l => (findLabel b l).getD .skip) (fun l p Q hs => ?_) (fun l p Q hb hs => scopeT_mono hY hC _ _ _ _ hb hs) _ (fun e Q hs => ?_)
  · obtain ⟨n, e1⟩ := p
    cases n with
    | zero => exact hs.elim
    | succ n =>
      simp only [scopeT] at hs
      split at hs
      · exact hs.elim
      · rename_i r hr
        refine ⟨by rw [hr]; rfl, ?_⟩
        rw [hr]
        simp only [sat_bind] at hs
        refine sat_mono hs ?_
        rintro ⟨x, e2⟩ hq
        obtain ⟨⟩ | ⟨i⟩ | ⟨l'⟩ | ⟨⟩ := x
        · exact hq
        · exact hq
        · exact ⟨(n, trim keep e2), weak_trim keep e2, Nat.lt_succ_self n, hq⟩
        · exact hq
  · simp only [scopeG, sat_bind] at hs
    refine sat_mono hs ?_
    rintro ⟨x, e2⟩ hq
    obtain ⟨⟩ | ⟨i⟩ | ⟨l'⟩ | ⟨⟩ := x
    · exact hq
    · exact hq
    · exact ⟨(fuel e, trim keep e2), weak_trim keep e2, hq⟩
    · exact hq
/-! Pieces of code by their numbers. -/
def blkOf : Code → Nat → Code
  | .seq a b, i => match blkOf a i with
    | .skip => blkOf b i
    | c => c
  | .cond _ a b, i => match blkOf a i with
    | .skip => blkOf b i
    | c => c
  | .block j b, i => bif Nat.beq j i then b else blkOf b i
  | .loop b, i => blkOf b i
  | .scope b, i => blkOf b i
  | _, _ => .skip
def loopOf : Code → Code
  | .loop b => b
  | c => c
def scopeOf : Code → Code
  | .seq a b => match scopeOf a with
    | .skip => scopeOf b
    | c => c
  | .scope b => b
  | _ => .skip
def bodyOf (f : Func) : Code := f.body.getD .skip
end Ev
end Go.Proofs.YtogkcphobhhbdaaDoor

/- A small evaluator of the model's code over known state. Generic part 12: code cut ahead of a block, or behind it. -/
namespace Go.Proofs.YtogkcphobhhbdaaDoor
open Go Go.RowKit
namespace Ev
set_option maxRecDepth 100000
def isBlk (id : Nat) : Code → Bool
  | .block i _ => Nat.beq i id
  | _ => false
/-- What stands ahead of block id on the spine, and what stands from it on. -/
def splitAt (id : Nat) : Code → Option (Code × Code)
  | .seq a r => bif isBlk id a then some (.skip, .seq a r) else (splitAt id r).map fun p => (.seq a p.1, p.2)
  | _ => none
theorem seq_sat {Y : Sys} {C : Cfg Y} {a b : Code} {e : E Y} {Q : Ex × E Y → Prop} : (evCode C (.seq a b) e).sat Q ↔ (evCode C a e).sat fun xe => match xe.1 with
    | .normal => (evCode C b xe.2).sat Q
    | _ => Q xe := by
  simp only [evCode, sat_bind]
  constructor
  · intro h
    refine sat_mono h ?_
    rintro ⟨x, e'⟩ hq
    obtain ⟨⟩ | ⟨i⟩ | ⟨l⟩ | ⟨⟩ := x <;> exact hq
  · intro h
    refine sat_mono h ?_
    rintro ⟨x, e'⟩ hq
    obtain ⟨⟩ | ⟨i⟩ | ⟨l⟩ | ⟨⟩ := x <;> exact hq
theorem split_sat {Y : Sys} {C : Cfg Y} {id : Nat} : ∀ {c x y : Code} {e : E Y} {Q : Ex × E Y → Prop}, splitAt id c = some (x, y) → (evCode C (.seq x y) e).sat Q → (evCode C c e).sat Q := by
  intro c
  induction c with
  | seq a r _ ih =>
    intro x y e Q hs h
    simp only [splitAt] at hs
    cases hb : isBlk id a with
    | true =>
      simp only [hb, cond_true, Option.some.injEq, Prod.mk.injEq] at hs
      obtain ⟨rfl, rfl⟩ := hs
      rw [seq_sat] at h
      exact h
    | false =>
      simp only [hb, cond_false] at hs
      obtain ⟨⟨x', y'⟩, hp, heq⟩ := Option.map_eq_some_iff.1 hs
      simp only [Prod.mk.injEq] at heq
      obtain ⟨rfl, rfl⟩ := heq
      rw [seq_sat, seq_sat] at h
      rw [seq_sat]
      refine sat_mono h ?_
      rintro ⟨z, e'⟩ hq
      obtain ⟨⟩ | ⟨i⟩ | ⟨l⟩ | ⟨⟩ := z
      · refine ih hp ?_
        rw [seq_sat]; exact hq
      · exact hq
      · exact hq
      · exact hq
  | _ => intro x y e Q hs h; simp [splitAt] at hs
/-- What is said of a block by its summary. -/
theorem block_sat {Y : Sys} {C : Cfg Y} {id : Nat} {b : Code} {g : E Y → Tree (Ex × E Y)} {e : E Y} {Q : Ex × E Y → Prop} (hf : find C.blk id = some g) (hok : BlkOk Y C.N id b g) (h : (g e).sat Q) : (evCode C (.block id b) e).sat Q := by
  simp only [evCode, hf]
  exact ⟨hok, h⟩
theorem scope_sat {Y : Sys} {C : Cfg Y} {b : Code} {g : E Y → Tree (Ex × E Y)} {e : E Y} {Q : Ex × E Y → Prop} (hf : find C.blk 1000000 = some g) (hok : CodeOk Y C.N (.scope b) g) (h : (g e).sat Q) : (evCode C (.scope b) e).sat Q := by
  simp only [evCode, hf]
  exact ⟨hok, h⟩
def sndC : Code → Code
  | .seq _ b => b
  | c => c
def beforeOf (id : Nat) (c : Code) : Code := match splitAt id c with
  | some p => p.1
  | none => .skip
def fromOf (id : Nat) (c : Code) : Code := match splitAt id c with
  | some p => p.2
  | none => .skip
end Ev
end Go.Proofs.YtogkcphobhhbdaaDoor

/- source.nextch as the reading view sees it. -/
namespace Go.Proofs.YtogkcphobhhbdaaDoor
open Go Go.RowKit
namespace Sc
open Ev
set_option maxRecDepth 100000
theorem err_ev (A : Ad) (c : Core (RY A)) (m : ByteArray) : evFn (cfg1 A Tryd.f92.ntmps) Tryd.f92 [.st 0, .val (.string m)] c = errG A [.st 0, .val (.string m)] c := by kernel_rfl
noncomputable def errS (A : Ad) : Smy (RY A) := ⟨92, #[], true, errG A⟩
theorem errS_ok (A : Ad) (hA : A.Ok) : (errS A).Ok := by
  have key : ∀ args c (Q : SV × Core (RY A) → Prop), (errG A args c).sat Q → (evFn (cfg1 A Tryd.f92.ntmps) Tryd.f92 args c).sat Q := fun args c Q h => by
    unfold errG at h
    split at h
    · rw [err_ev]; exact h
    · exact h.elim
  exact ⟨fun args w => by kernel_rfl, (fn_sound (RLaws A hA) (cfg1_ok A hA _) Tryd.func92).refine key, (fn_mono (RLaws A hA) (cfg1_ok A hA _)).refine key⟩
noncomputable def fullS (A : Ad) : Smy (RY A) := ⟨93, #[], false, fullG A⟩
theorem fullS_ok (A : Ad) (hA : A.Ok) : (fullS A).Ok := ⟨fun args w => by kernel_rfl, full_ok A hA, full_mono A⟩
noncomputable def decS (A : Ad) : Smy (RY A) := ⟨95, #[], false, decG A⟩
theorem decS_ok (A : Ad) (hA : A.Ok) : (decS A).Ok := ⟨fun args w => by kernel_rfl, dec_ok A hA, dec_mono A⟩
noncomputable def fillS (A : Ad) : Smy (RY A) := ⟨94, #[], true, fillG A⟩
theorem fillS_ok (A : Ad) (hA : A.Ok) : (fillS A).Ok := ⟨fun args w => by kernel_rfl, fill_ok A hA, fill_mono A hA⟩
noncomputable def nSums (A : Ad) : List (Nat × Smy (RY A)) := [(92, errS A), (93, fullS A), (94, fillS A), (95, decS A)]
noncomputable def nCfg (A : Ad) (blk : List (Nat × (E (RY A) → Tree (Ex × E (RY A))))) : Cfg (RY A) := ⟨Tryd.f71.ntmps, nSums A, [], blk, [95], [], 0⟩
theorem nCfg_ok (A : Ad) (hA : A.Ok) (blk) : (nCfg A blk).Ok where
  sums := fun p hp => by
    simp only [nCfg, nSums, List.mem_cons, List.not_mem_nil, or_false] at hp
    rcases hp with rfl | rfl | rfl | rfl
    · exact ⟨errS_ok A hA, rfl, rfl⟩
    · exact ⟨fullS_ok A hA, rfl, rfl⟩
    · exact ⟨fillS_ok A hA, rfl, rfl⟩
    · exact ⟨decS_ok A hA, rfl, rfl⟩
  still := fun p hp h => by
    simp only [nCfg, nSums, List.mem_cons, List.not_mem_nil, or_false] at hp
    rcases hp with rfl | rfl | rfl | rfl
    · cases h
    · cases h
    · cases h
    · exact ⟨rfl, dec_quiet A⟩
  fns := fun p hp => by cases hp
  mths := fun p hp => by cases hp
noncomputable def nLoop : Code := loopOf (blkOf (bodyOf Tryd.f71) 0)
noncomputable def nScope : Code := scopeOf (bodyOf Tryd.f71)
noncomputable def nLoopG (A : Ad) (e : E (RY A)) : Tree (Ex × E (RY A)) := loopT (nCfg A []) nLoop 0 [0] 4 (trim [0] e)
noncomputable def nCfg1 (A : Ad) : Cfg (RY A) := nCfg A [(0, nLoopG A)]
noncomputable def nScopeG (A : Ad) (e : E (RY A)) : Tree (Ex × E (RY A)) := scopeG (nCfg1 A) nScope [0] (fun _ => 5000) e
noncomputable def nCfg2 (A : Ad) : Cfg (RY A) := nCfg A [(1000000, nScopeG A)]
noncomputable def exC {A : Ad} (xe : Ex × E (RY A)) : Tree (Ex × E (RY A)) := .leaf (xe.1, trim [0] xe.2)
noncomputable def fillK (A : Ad) (x : Raw) (bx : List Value) : Tree (Ex × E (RY A)) :=
  (fillT A x bx).bind fun p => .leaf (.normal, ⟨⟨p.2.st, p.2.bx⟩, [(0, .st 0)]⟩)
noncomputable def nOut (A : Ad) (x : Raw) (bx : List Value) : Tree (Ex × E (RY A)) := .leaf (.exit 0, ⟨⟨x, bx⟩, [(0, .st 0)]⟩)
noncomputable def nRoundT (A : Ad) (x : Raw) (bx : List Value) (more : Tree (Ex × E (RY A))) : Tree (Ex × E (RY A)) :=
  .test (decide (w64 (x.e - x.r) < 4))
    (.req (0 ≤ x.r ∧ x.r ≤ x.e ∧ x.e ≤ x.buf.size)
      (.test (Nat.beq (x.buf.extract x.r.toNat x.e.toNat).size 0) more (.any (nOut A x bx) more)))
    (nOut A x bx)
noncomputable def nEnd (A : Ad) (e : Ex) (x : Raw) (bx : List Value) : Tree (Ex × E (RY A)) := .leaf (e, ⟨⟨x, bx⟩, [(0, .st 0)]⟩)
def tell (x : Raw) (m : ByteArray) : Raw := addNote x ⟨u64 (1 + x.line0), u64 (1 + x.col0), m⟩
/-- Up to the loop: the place goes on, the next byte is looked at. -/
noncomputable def nLook (A : Ad) (x : Raw) (bx : List Value) : Tree (Ex × E (RY A)) :=
  .req (0 ≤ x.r ∧ x.r.toNat < x.buf.size)
    (.test (decide (IntKind.i32.wrap (x.buf.get! x.r.toNat).toNat < 128))
      (.test (IntKind.i32.wrap (x.buf.get! x.r.toNat).toNat == 0)
        (nEnd A (.goto 0) (tell { x with ch := IntKind.i32.wrap (x.buf.get! x.r.toNat).toNat, r := w64 (x.r + 1), chw := 1 } msgNUL) bx)
        (nEnd A .ret { x with ch := IntKind.i32.wrap (x.buf.get! x.r.toNat).toNat, r := w64 (x.r + 1), chw := 1 } bx))
      (nEnd A .normal { x with ch := IntKind.i32.wrap (x.buf.get! x.r.toNat).toNat } bx))
noncomputable def nBefore (A : Ad) (x : Raw) (bx : List Value) : Tree (Ex × E (RY A)) :=
  .test (x.ch == 10) (nLook A { x with line0 := u64 (x.line0 + 1), col0 := 0 } bx) (nLook A { x with col0 := u64 (x.col0 + u64 x.chw) } bx)
/-- Behind the loop. -/
noncomputable def nBom (A : Ad) (x : Raw) (bx : List Value) : Tree (Ex × E (RY A)) :=
  .test (x.ch == 65279)
    (.test (decide (x.line0 > 0)) (nEnd A (.goto 0) (tell x msgBOM) bx) (.test (decide (x.col0 > 0)) (nEnd A (.goto 0) (tell x msgBOM) bx) (nEnd A (.goto 0) x bx)))
    (nEnd A .normal x bx)
noncomputable def nRune (A : Ad) (x : Raw) (bx : List Value) : Tree (Ex × E (RY A)) :=
  .test (x.ch == 65533) (.test (x.chw == 1) (nEnd A (.goto 0) (tell x msgUTF) bx) (nBom A x bx)) (nBom A x bx)
noncomputable def nAfter (A : Ad) (x : Raw) (bx : List Value) (eof : Tree (Ex × E (RY A))) : Tree (Ex × E (RY A)) :=
  .test (x.r == x.e) eof
    (.req (0 ≤ x.r ∧ x.r ≤ x.e ∧ x.e ≤ x.buf.size)
      (nRune A { x with ch := (Lib.decodeGo (x.buf.extract x.r.toNat x.e.toNat)).1, chw := (Lib.decodeGo (x.buf.extract x.r.toNat x.e.toNat)).2, r := w64 (x.r + (Lib.decodeGo (x.buf.extract x.r.toNat x.e.toNat)).2) } bx))
theorem nBefore_ev (A : Ad) (x : Raw) (bx : List Value) : (evCode (nCfg1 A) (beforeOf 0 nScope) ⟨⟨x, bx⟩, [(0, .st 0)]⟩).bind exC = nBefore A x bx := by kernel_rfl
theorem nAfter_evT (A : Ad) (x : Raw) (bx : List Value) : (evCode (nCfg1 A) (sndC (fromOf 0 nScope)) ⟨⟨{ x with io := true }, bx⟩, [(0, .st 0)]⟩).bind exC = nAfter A { x with io := true } bx (nEnd A .ret { x with io := true, ch := -1, chw := 0 } bx) := by kernel_rfl
theorem nAfter_evF (A : Ad) (x : Raw) (bx : List Value) : (evCode (nCfg1 A) (sndC (fromOf 0 nScope)) ⟨⟨{ x with io := false }, bx⟩, [(0, .st 0)]⟩).bind exC = nAfter A { x with io := false } bx .fail := by kernel_rfl
theorem nRound_evT (A : Ad) (x : Raw) (bx : List Value) : (evCode (nCfg A []) nLoop ⟨⟨{ x with io := true }, bx⟩, [(0, .st 0)]⟩).bind exC = nRoundT A { x with io := true } bx (nOut A { x with io := true } bx) := by kernel_rfl
theorem nRound_evF (A : Ad) (x : Raw) (bx : List Value) : (evCode (nCfg A []) nLoop ⟨⟨{ x with io := false }, bx⟩, [(0, .st 0)]⟩).bind exC = nRoundT A { x with io := false } bx (fillK A { x with io := false } bx) := by kernel_rfl
theorem nScope_split : splitAt 0 nScope = some (beforeOf 0 nScope, fromOf 0 nScope) := by kernel_rfl
theorem nFrom : fromOf 0 nScope = .seq (.block 0 (.loop nLoop)) (sndC (fromOf 0 nScope)) := by kernel_rfl
theorem nHead : nScope = .seq (.label 0) (sndC nScope) := by kernel_rfl
theorem nLabel : findLabel nScope 0 = some (.seq .skip (sndC nScope)) := by kernel_rfl
end Sc
end Go.Proofs.YtogkcphobhhbdaaDoor

/- source.nextch, as a demand on the block ahead of it. -/
namespace Go.Proofs.YtogkcphobhhbdaaDoor
open Go Go.RowKit
namespace Sc
open Ev
set_option maxRecDepth 100000
theorem exC_sat {A : Ad} {T : Tree (Ex × E (RY A))} {P : Ex × E (RY A) → Prop} : (T.bind exC).sat P ↔ T.sat fun xe => P (xe.1, trim [0] xe.2) := by
  rw [sat_bind]; rfl
/-- The loop that fills: K of what it comes to. -/
def loopP (A : Ad) : Nat → Raw → List Value → (Raw → List Value → Prop) → Prop
  | 0, _, _, _ => False
  | n + 1, x, bx, K => (nRoundT A x bx (if x.io = true then nOut A x bx else fillK A x bx)).sat fun xe => match xe.1 with
    | .normal => loopP A n xe.2.c.st xe.2.c.bx K
    | .exit i => i = 0 ∧ K xe.2.c.st xe.2.c.bx
    | _ => False
theorem round_ev (A : Ad) (x : Raw) (bx : List Value) : (evCode (nCfg A []) nLoop ⟨⟨x, bx⟩, [(0, .st 0)]⟩).bind exC = nRoundT A x bx (if x.io = true then nOut A x bx else fillK A x bx) := by
  obtain ⟨buf, io, b, r, e, l0, c0, ch, chw, mode, nl, l, c, bl, tok, lit, bad, kind, op, prec, m, notes⟩ := x
  cases io with
  | true => exact nRound_evT A ⟨buf, true, b, r, e, l0, c0, ch, chw, mode, nl, l, c, bl, tok, lit, bad, kind, op, prec, m, notes⟩ bx
  | false => exact nRound_evF A ⟨buf, false, b, r, e, l0, c0, ch, chw, mode, nl, l, c, bl, tok, lit, bad, kind, op, prec, m, notes⟩ bx
def E0 (A : Ad) (x : Raw) (bx : List Value) : E (RY A) := ⟨⟨x, bx⟩, [(0, .st 0)]⟩
/-- All that a round comes to bears slot 0. -/
def has0 {A : Ad} (xe : Ex × E (RY A)) : Prop := xe.2 = E0 A xe.2.c.st xe.2.c.bx
theorem fillK_has {A : Ad} {x : Raw} {bx : List Value} {P : Ex × E (RY A) → Prop} (h : (fillK A x bx).sat P) : (fillK A x bx).sat fun xe => has0 xe ∧ P xe := by
  unfold fillK at *
  rw [sat_bind] at *
  exact sat_mono h fun p hp => ⟨rfl, hp⟩
theorem nRoundT_has {A : Ad} {x : Raw} {bx : List Value} {more : Tree (Ex × E (RY A))} {P : Ex × E (RY A) → Prop} (hm : ∀ P, more.sat P → more.sat fun xe => has0 xe ∧ P xe) (h : (nRoundT A x bx more).sat P) : (nRoundT A x bx more).sat fun xe => has0 xe ∧ P xe := by
  refine ⟨fun h0 => ⟨(h.1 h0).1, fun h1 => hm _ (((h.1 h0).2).1 h1), fun h1 => ⟨⟨rfl, (((h.1 h0).2).2 h1).1⟩, hm _ (((h.1 h0).2).2 h1).2⟩⟩, fun h0 => ⟨rfl, h.2 h0⟩⟩
theorem loop_sat (A : Ad) {Q : Ex × E (RY A) → Prop} {K : Raw → List Value → Prop} (hQ : ∀ x bx, K x bx → Q (.normal, E0 A x bx)) : ∀ (n : Nat) (x : Raw) (bx : List Value), loopP A n x bx K → (loopT (nCfg A []) nLoop 0 [0] n (E0 A x bx)).sat Q
  | 0, x, bx, h => h.elim
  | n + 1, x, bx, h => by
    simp only [loopT, sat_bind]
    unfold loopP at h
    have h' := nRoundT_has (fun P hP => by
      by_cases hio : x.io = true
      · rw [if_pos hio] at hP ⊢; exact ⟨rfl, hP⟩
      · rw [if_neg hio] at hP ⊢; exact fillK_has hP) h
    rw [← round_ev, exC_sat] at h'
    refine sat_mono h' ?_
    rintro ⟨ex, e1⟩ ⟨h1, h2⟩
    have h1' : trim [0] e1 = E0 A e1.c.st e1.c.bx := h1
    obtain ⟨⟩ | ⟨i⟩ | ⟨l⟩ | ⟨⟩ := ex
    · simp only at h2 ⊢
      rw [h1']
      exact loop_sat A hQ n _ _ h2
    · obtain ⟨rfl, hk⟩ := h2
      simp only
      have : Nat.beq 0 0 = true := rfl
      rw [this, h1']
      exact hQ _ _ hk
    · exact h2.elim
    · exact h2.elim
noncomputable def nAft (A : Ad) (x : Raw) (bx : List Value) : Tree (Ex × E (RY A)) := nAfter A x bx (if x.io = true then nEnd A .ret { x with ch := -1, chw := 0 } bx else .fail)
theorem aft_ev (A : Ad) (x : Raw) (bx : List Value) : (evCode (nCfg1 A) (sndC (fromOf 0 nScope)) (E0 A x bx)).bind exC = nAft A x bx := by
  obtain ⟨buf, io, b, r, e, l0, c0, ch, chw, mode, nl, l, c, bl, tok, lit, bad, kind, op, prec, m, notes⟩ := x
  cases io with
  | true => exact nAfter_evT A ⟨buf, true, b, r, e, l0, c0, ch, chw, mode, nl, l, c, bl, tok, lit, bad, kind, op, prec, m, notes⟩ bx
  | false => exact nAfter_evF A ⟨buf, false, b, r, e, l0, c0, ch, chw, mode, nl, l, c, bl, tok, lit, bad, kind, op, prec, m, notes⟩ bx
/-- What nextch demands ahead of it, for K behind it. -/
def nextP (A : Ad) : Nat → Raw → List Value → (Raw → List Value → Prop) → Prop
  | 0, _, _, _ => False
  | n + 1, x, bx, K => (nBefore A x bx).sat fun xe => match xe.1 with
    | .ret => K xe.2.c.st xe.2.c.bx
    | .goto l => l = 0 ∧ nextP A n xe.2.c.st xe.2.c.bx K
    | .normal => loopP A 4 xe.2.c.st xe.2.c.bx fun x' bx' => (nAft A x' bx').sat fun ye => match ye.1 with
      | .ret => K ye.2.c.st ye.2.c.bx
      | .normal => K ye.2.c.st ye.2.c.bx
      | .goto l => l = 0 ∧ nextP A n ye.2.c.st ye.2.c.bx K
      | _ => False
    | _ => False
theorem nLook_has {A : Ad} {x : Raw} {bx : List Value} {P : Ex × E (RY A) → Prop} (h : (nLook A x bx).sat P) : (nLook A x bx).sat fun xe => has0 xe ∧ P xe :=
  ⟨h.1, fun h0 => ⟨fun h1 => ⟨rfl, (h.2.1 h0).1 h1⟩, fun h1 => ⟨rfl, (h.2.1 h0).2 h1⟩⟩, fun h0 => ⟨rfl, h.2.2 h0⟩⟩
theorem nBefore_has {A : Ad} {x : Raw} {bx : List Value} {P : Ex × E (RY A) → Prop} (h : (nBefore A x bx).sat P) : (nBefore A x bx).sat fun xe => has0 xe ∧ P xe :=
  ⟨fun h0 => nLook_has (h.1 h0), fun h0 => nLook_has (h.2 h0)⟩
theorem nBom_has {A : Ad} {x : Raw} {bx : List Value} {P : Ex × E (RY A) → Prop} (h : (nBom A x bx).sat P) : (nBom A x bx).sat fun xe => has0 xe ∧ P xe :=
  ⟨fun h0 => ⟨fun h1 => ⟨rfl, (h.1 h0).1 h1⟩, fun h1 => ⟨fun h2 => ⟨rfl, ((h.1 h0).2 h1).1 h2⟩, fun h2 => ⟨rfl, ((h.1 h0).2 h1).2 h2⟩⟩⟩, fun h0 => ⟨rfl, h.2 h0⟩⟩
theorem nRune_has {A : Ad} {x : Raw} {bx : List Value} {P : Ex × E (RY A) → Prop} (h : (nRune A x bx).sat P) : (nRune A x bx).sat fun xe => has0 xe ∧ P xe :=
  ⟨fun h0 => ⟨fun h1 => ⟨rfl, (h.1 h0).1 h1⟩, fun h1 => nBom_has ((h.1 h0).2 h1)⟩, fun h0 => nBom_has (h.2 h0)⟩
theorem nAft_has {A : Ad} {x : Raw} {bx : List Value} {P : Ex × E (RY A) → Prop} (h : (nAft A x bx).sat P) : (nAft A x bx).sat fun xe => has0 xe ∧ P xe := by
  refine ⟨fun h0 => ?_, fun h0 => ⟨(h.2 h0).1, nRune_has (h.2 h0).2⟩⟩
  have h1 := h.1 h0
  by_cases hio : x.io = true
  · rw [if_pos hio] at h1 ⊢; exact ⟨rfl, h1⟩
  · rw [if_neg hio] at h1; exact h1.elim
theorem head_sat (A : Ad) {e : E (RY A)} {P : Ex × E (RY A) → Prop} (h : (evCode (nCfg1 A) nScope e).sat P) : (evCode (nCfg1 A) (sndC nScope) e).sat P := by
  have key : ∀ y, nScope = .seq (.label 0) y → (evCode (nCfg1 A) y e).sat P := fun y hy => by
    rw [hy, seq_sat] at h
    exact h
  exact key _ nHead
theorem pass_sat (A : Ad) (hA : A.Ok) {Q : Ex × E (RY A) → Prop} {K : Raw → List Value → Prop} (hQ : ∀ ex c tm, (ex = .ret ∨ ex = .normal) → K c.st c.bx → Q (ex, ⟨c, tm⟩)) :
    ∀ (n : Nat) (x : Raw) (bx : List Value), nextP A (n + 1) x bx K → (evCode (nCfg1 A) nScope (E0 A x bx)).sat fun xe => match xe.1 with
      | .goto l' => (scopeT (nCfg1 A) nScope [0] n l' (trim [0] xe.2)).sat Q
      | _ => Q xe := by
  intro n
  induction n using Nat.strongRecOn with
  | _ n ih =>
    intro x bx h
    have jump : ∀ x bx, nextP A n x bx K → (scopeT (nCfg1 A) nScope [0] n 0 (E0 A x bx)).sat Q := by
      intro x bx hn
      cases n with
      | zero => exact hn.elim
      | succ m =>
        have := ih m (Nat.lt_succ_self m) x bx hn
        simp only [scopeT, nLabel, sat_bind]
        rw [seq_sat]
        show (evCode (nCfg1 A) (sndC nScope) (E0 A x bx)).sat _
        refine sat_mono (head_sat A this) ?_
        rintro ⟨ex, e1⟩ hq
        obtain ⟨⟩ | ⟨i⟩ | ⟨l⟩ | ⟨⟩ := ex <;> exact hq
    unfold nextP at h
    have h' := nBefore_has h
    rw [← nBefore_ev, exC_sat] at h'
    refine split_sat nScope_split ?_
    rw [seq_sat]
    refine sat_mono h' ?_
    rintro ⟨ex, e1⟩ ⟨h1, h2⟩
    have h1' : trim [0] e1 = E0 A e1.c.st e1.c.bx := h1
    obtain ⟨⟩ | ⟨i⟩ | ⟨l⟩ | ⟨⟩ := ex
    · simp only at h2 ⊢
      rw [nFrom, seq_sat]
      refine block_sat (g := nLoopG A) rfl (blk_loop (RLaws A hA) (nCfg_ok A hA []) [0] (fun _ => 4)) ?_
      unfold nLoopG
      rw [h1']
      refine loop_sat A (fun x' bx' hk => ?_) 4 _ _ h2
      have h3 := nAft_has hk
      rw [← aft_ev, exC_sat] at h3
      refine sat_mono h3 ?_
      rintro ⟨ex2, e2⟩ ⟨h4, h5⟩
      have h4' : trim [0] e2 = E0 A e2.c.st e2.c.bx := h4
      obtain ⟨⟩ | ⟨i⟩ | ⟨l⟩ | ⟨⟩ := ex2
      · exact hQ _ _ _ (.inr rfl) h5
      · exact h5.elim
      · obtain ⟨rfl, h6⟩ := h5
        simp only
        rw [h4']
        exact jump _ _ h6
      · exact hQ _ _ _ (.inl rfl) h5
    · exact h2.elim
    · obtain ⟨rfl, h6⟩ := h2
      simp only
      rw [h1']
      exact jump _ _ h6
    · exact hQ _ _ _ (.inl rfl) h2
end Sc
end Go.Proofs.YtogkcphobhhbdaaDoor

/- source.nextch, as the reading view sees it, whole. -/
namespace Go.Proofs.YtogkcphobhhbdaaDoor
open Go Go.RowKit
namespace Sc
open Ev
set_option maxRecDepth 100000
theorem nBody : (Tryd.f71).body = some (.scope nScope) := by kernel_rfl
theorem nFn (A : Ad) (x : Raw) (bx : List Value) : evFn (nCfg2 A) Tryd.f71 [.st 0] ⟨x, bx⟩ = (evCode (nCfg2 A) (.scope nScope) (E0 A x bx)).bind (evEnd Tryd.f71) := by
  unfold evFn
  rw [nBody]
  have hN : (Nat.beq (Tryd.f71).ntmps (nCfg2 A).N && Nat.ble [SV.st 0].length (nCfg2 A).N) = true := by kernel_rfl
  simp only [hN, cond_true]
  exact congrArg (fun e => (evCode (nCfg2 A) (.scope nScope) e).bind (evEnd Tryd.f71)) (show (⟨⟨x, bx⟩, number 0 [.st 0]⟩ : E (RY A)) = E0 A x bx from rfl)
theorem next_sat (A : Ad) (hA : A.Ok) {x : Raw} {bx : List Value} {K : Raw → List Value → Prop} (h : nextP A 5001 x bx K) :
    (evFn (nCfg2 A) Tryd.f71 [.st 0] ⟨x, bx⟩).sat fun p => p.1 = .val (.tuple #[]) ∧ K p.2.st p.2.bx := by
  rw [nFn, sat_bind]
  refine scope_sat (g := nScopeG A) rfl (code_scope (RLaws A hA) (nCfg_ok A hA [(0, nLoopG A)]) [0] (fun _ => 5000)) ?_
  unfold nScopeG scopeG
  rw [sat_bind]
  refine sat_mono (pass_sat A hA (Q := fun xe => (evEnd Tryd.f71 xe).sat fun p => p.1 = .val (.tuple #[]) ∧ K p.2.st p.2.bx) (fun ex c tm hex hk => ?_) 5000 x bx h) ?_
  · rcases hex with rfl | rfl
    · exact ⟨rfl, hk⟩
    · exact ⟨rfl, hk⟩
  · rintro ⟨ex, e1⟩ hq
    obtain ⟨⟩ | ⟨i⟩ | ⟨l⟩ | ⟨⟩ := ex <;> exact hq
theorem next_ok (A : Ad) (hA : A.Ok) : SumOk (RY A) 71 #[] true (evFn (nCfg2 A) Tryd.f71) := fn_sound (RLaws A hA) (nCfg_ok A hA _) Tryd.func71
theorem next_mono (A : Ad) (hA : A.Ok) : GMono (evFn (nCfg2 A) Tryd.f71) := fn_mono (RLaws A hA) (nCfg_ok A hA _)
end Sc
end Go.Proofs.YtogkcphobhhbdaaDoor

/- The buffer as a window over the text; what fill does to it. -/
namespace Go.Proofs.YtogkcphobhhbdaaDoor
open Go Go.RowKit
namespace Sc
open Ev
set_option maxRecDepth 100000
/-- The buffer holds the text from k on, e bytes of it; the next byte is at r. -/
structure Win (A : Ad) (x : Raw) (k r e : Nat) : Prop where
  hr : x.r = r
  he : x.e = e
  re : r ≤ e
  hm : x.m = k + e
  bs : x.buf.size = 4096
  cont : ∀ j, j < e → x.buf.get! j = A.src.get! (k + j)
  sent : x.buf.get! e = 128
  ph : x.m = A.src.size ∨ x.m = 0
  io : x.io = true → x.m = A.src.size
  n : A.src.size ≤ 2048
theorem Win.e_le {A : Ad} {x : Raw} {k r e : Nat} (h : Win A x k r e) : e ≤ 2048 := by
  have := h.n; have := h.hm; rcases h.ph with h | h <;> omega
theorem w64_id {n : Int} (h1 : -9223372036854775808 ≤ n) (h2 : n ≤ 9223372036854775807) : w64 n = n := by
  show IntKind.i64.wrap n = n
  rw [IntKind.wrap_i64]; omega
theorem get_mk (l : List UInt8) (i : Nat) : (⟨l.toArray⟩ : ByteArray).get! i = l.getD i 0 := by
  show l.toArray[i]! = _
  by_cases h : i < l.length
  · rw [getElem!_pos l.toArray i (by simpa using h)]; simp [List.getD_eq_getElem?_getD, h]
  · rw [getElem!_neg l.toArray i (by simpa using h)]; simp [List.getD_eq_getElem?_getD, h]; rfl
theorem get_list (bs : ByteArray) (i : Nat) : bs.get! i = bs.data.toList.getD i 0 := by
  cases bs with
  | mk d => rw [show (⟨d⟩ : ByteArray) = ⟨d.toList.toArray⟩ by simp]; rw [get_mk]
theorem get_set (bs : ByteArray) (i j : Nat) (b : UInt8) (hi : i < bs.size) : (bs.set! i b).get! j = if j = i then b else bs.get! j := by
  show (bs.data.set! i b)[j]! = _
  rw [Array.set!_eq_setIfInBounds]
  have hi' : i < bs.data.size := hi
  by_cases hj : j < bs.data.size
  · rw [getElem!_pos _ j (by simpa using hj), Array.getElem_setIfInBounds (by simpa using hj)]
    by_cases h : i = j
    · subst h; simp
    · have h' : ¬ j = i := fun e => h e.symm
      rw [if_neg h, if_neg h']
      show bs.data[j] = bs.data[j]!
      rw [getElem!_pos bs.data j hj]
  · have h' : ¬ j = i := by omega
    rw [if_neg h', getElem!_neg _ j (by simpa using hj)]
    show _ = bs.data[j]!
    rw [getElem!_neg bs.data j hj]
theorem get_blit (bs : ByteArray) (so n j : Nat) (hso : so + n ≤ bs.size) (hj : j < n) : (blit bs 0 so n).get! j = bs.get! (so + j) := by
  unfold blit
  rw [get_mk, get_list]
  have hl := size_toList bs
  simp only [List.take_zero, List.nil_append, List.getD_eq_getElem?_getD]
  rw [List.getElem?_append_left (by simp; omega), List.getElem?_take, if_pos hj, List.getElem?_drop]
theorem size_blit (bs : ByteArray) (so n : Nat) (hso : so + n ≤ bs.size) : (blit bs 0 so n).size = bs.size := by
  unfold blit
  rw [size_mk]
  have hl := size_toList bs
  simp
  omega
theorem get_lay (bs src : ByteArray) (j : Nat) (hj : j < src.size) : (lay bs 0 src).get! j = src.get! j := by
  unfold lay
  rw [get_mk, get_list]
  have hl := size_toList src
  simp only [List.take_zero, List.nil_append, List.getD_eq_getElem?_getD]
  rw [List.getElem?_append_left (by omega)]
theorem size_set (bs : ByteArray) (i : Nat) (b : UInt8) : (bs.set! i b).size = bs.size := by
  show (bs.data.set! i b).size = _
  rw [Array.set!_eq_setIfInBounds, Array.size_setIfInBounds]; rfl
/-- What fill leaves. -/
structure Filled (A : Ad) (x : Raw) (k r : Nat) (x' : Raw) (k' r' e' : Nat) (b0 : Nat) : Prop where
  win : Win A x' k' r' e'
  pos : k' = k + b0
  pos2 : r = r' + b0
  same : x' = { x with buf := x'.buf, io := x'.io, b := x'.b, r := x'.r, e := x'.e, m := x'.m }
  first : x.m ≠ A.src.size → x'.m = A.src.size ∧ x'.io = false
  last : x.m = A.src.size → x'.m = A.src.size ∧ x'.io = true
theorem fillFin_win {A : Ad} {x : Raw} {bx : List Value} {n k r e s : Nat} (hs : s = e + n) (hw : x.r = r ∧ x.e = e ∧ r ≤ e ∧ x.m = k + s ∧ x.buf.size = 4096) (hc : ∀ j, j < s → x.buf.get! j = A.src.get! (k + j)) (hm : x.m = A.src.size) (hn : A.src.size ≤ 2048) :
    (fillFin A x bx n).sat fun p => p = (.val (.tuple #[]), ⟨{ x with e := (s : Int), buf := x.buf.set! s 128 }, bx⟩) ∧ Win A { x with e := (s : Int), buf := x.buf.set! s 128 } k r s := by
  obtain ⟨h1, h2, h3, h4, h5⟩ := hw
  have hlt : s ≤ 2048 := by omega
  have e1 : w64 (x.e + n) = (s : Int) := by rw [w64_id (by omega) (by omega)]; omega
  have e2 : ((s : Int)).toNat = s := Int.toNat_natCast s
  unfold fillFin
  rw [e1, e2, Nat.zero_add]
  refine ⟨⟨by omega, by omega⟩, by omega, rfl, ⟨h1, rfl, by omega, h4, ?_, fun j hj => ?_, ?_, .inl hm, fun _ => hm, hn⟩⟩
  · show (x.buf.set! s 128).size = 4096
    rw [size_set]; exact h5
  · show (x.buf.set! s 128).get! j = _
    rw [get_set _ _ _ _ (by omega), if_neg (by omega)]; exact hc j hj
  · show (x.buf.set! s 128).get! s = _
    rw [get_set _ _ _ _ (by omega), if_pos rfl]
theorem fillTail_win {A : Ad} {x : Raw} {bx : List Value} {k r e : Nat} (h1 : x.r = r) (h2 : x.e = e) (h3 : r ≤ e) (h4 : x.m = k + e) (h5 : x.buf.size = 4096) (hc : ∀ j, j < e → x.buf.get! j = A.src.get! (k + j)) (ph : x.m = A.src.size ∨ x.m = 0) (hn : A.src.size ≤ 2048) :
    (fillTail A x bx).sat fun p => p.1 = .val (.tuple #[]) ∧ p.2.bx = bx ∧ ∃ e', Win A p.2.st k r e' ∧ p.2.st = { x with buf := p.2.st.buf, io := p.2.st.io, e := p.2.st.e, m := p.2.st.m } ∧
      (x.m ≠ A.src.size → p.2.st.m = A.src.size ∧ p.2.st.io = false) ∧ (x.m = A.src.size → p.2.st.m = A.src.size ∧ p.2.st.io = true) := by
  have he : e ≤ 2048 := by rcases ph with h | h <;> omega
  have e1 : w64 ((4096 : Nat) - 1) = 4095 := by decide
  have e2 : x.e.toNat = e := by rw [h2]; exact Int.toNat_natCast e
  unfold fillTail
  rw [e1, e2]
  refine ⟨fun _ => ⟨⟨by omega, by omega, by omega, by omega, by omega⟩, rfl, rfl, fun hm => ?_, fun hm => ?_⟩, fun h => by cases h⟩
  · have hm' := Nat.eq_of_beq_eq_true hm
    have key := fillFin_win (A := A) (x := { x with io := true }) (bx := bx) (n := 0) (k := k) (r := r) (e := e) (s := e) rfl ⟨h1, h2, h3, h4, h5⟩ hc hm' hn
    have fin : (fillFin A { x with io := true } bx 0).sat fun p => p.1 = .val (.tuple #[]) ∧ p.2.bx = bx ∧ ∃ e', Win A p.2.st k r e' ∧ p.2.st = { x with buf := p.2.st.buf, io := p.2.st.io, e := p.2.st.e, m := p.2.st.m } ∧
        (x.m ≠ A.src.size → p.2.st.m = A.src.size ∧ p.2.st.io = false) ∧ (x.m = A.src.size → p.2.st.m = A.src.size ∧ p.2.st.io = true) := by
      refine sat_mono key ?_
      rintro p ⟨rfl, hw⟩
      exact ⟨rfl, rfl, e, hw, rfl, fun h => absurd hm' h, fun _ => ⟨hm', rfl⟩⟩
    exact ⟨fun h => (by cases h), fun _ => ⟨fun _ => fin, fun _ => fin⟩⟩
  · have hm' : x.m ≠ A.src.size := fun e => by rw [e] at hm; simp at hm
    have hm0 : x.m = 0 := by rcases ph with h | h; exact absurd h hm'; exact h
    have he0 : e = 0 := by omega
    have hk0 : k = 0 := by omega
    subst he0 hk0
    have hr0 : r = 0 := by omega
    subst hr0
    have hpos : 0 < A.src.size := by omega
    refine ⟨⟨hm0, ?_, by omega⟩, fun h => ?_, fun _ => ⟨fun _ => ?_, fun h => ?_⟩⟩
    · have : (4095 : Int).toNat = 4095 := rfl
      omega
    · have := of_decide_eq_true h; omega
    · have key := fillFin_win (A := A) (x := { x with io := false, m := A.src.size, buf := lay x.buf (0 + 0) A.src }) (bx := bx) (n := A.src.size) (k := 0) (r := 0) (e := 0) (s := A.src.size) (by omega)
        ⟨h1, h2, h3, by simp, by show (lay x.buf (0 + 0) A.src).size = 4096; rw [lay_size (by omega)]; exact h5⟩ (fun j hj => by show (lay x.buf (0 + 0) A.src).get! j = _; rw [Nat.zero_add, Nat.zero_add]; exact get_lay _ _ _ hj) rfl hn
      refine sat_mono key ?_
      rintro p ⟨rfl, hw⟩
      exact ⟨rfl, rfl, A.src.size, hw, rfl, fun _ => ⟨rfl, rfl⟩, fun h => absurd h hm'⟩
    · have := of_decide_eq_false h; omega
theorem fillMid_win {A : Ad} {x : Raw} {bx : List Value} {k r e : Nat} (b : Nat) (h : Win A x k r e) (hb : b ≤ r) :
    (fillMid A x bx b).sat fun p => p.1 = .val (.tuple #[]) ∧ p.2.bx = bx ∧ ∃ r' e', Filled A x k r p.2.st (k + b) r' e' b ∧ p.2.st.b = x.b := by
  have hel := h.e_le
  have hre := h.re
  have hbs := h.bs
  have e1 : x.e.toNat = e := by rw [h.he]; exact Int.toNat_natCast e
  have e2 : ((b : Int)).toNat = b := Int.toNat_natCast b
  have er : w64 (x.r - b) = ((r - b : Nat) : Int) := by rw [h.hr, w64_id (by omega) (by omega)]; omega
  have ee : w64 (x.e - b) = ((e - b : Nat) : Int) := by rw [h.he, w64_id (by omega) (by omega)]; omega
  have emin : Nat.min (e - b) 4096 = e - b := Nat.min_eq_left (by omega)
  unfold fillMid
  rw [e1, e2, er, ee, emin]
  refine ⟨⟨by omega, by rw [h.he]; omega, by rw [h.he]; omega, by omega, by omega⟩, fun hd => ?_, fun _ => ⟨fun hd => ⟨⟨by omega, by omega⟩, ?_⟩, fun hd => ?_⟩⟩
  · have := of_decide_eq_true hd
    rw [w64_id (by omega) (by omega)] at this
    omega
  · refine sat_mono (fillTail_win (A := A) (bx := bx) (k := k + b) (r := r - b) (e := e - b) (x := { x with buf := blit x.buf 0 (0 + b) (e - b), r := ((r - b : Nat) : Int), e := ((e - b : Nat) : Int) }) rfl rfl (by omega) (by have := h.hm; show x.m = _; omega) (by show (blit x.buf 0 (0 + b) (e - b)).size = 4096; rw [size_blit _ _ _ (by omega)]; exact hbs)
      (fun j hj => by show (blit x.buf 0 (0 + b) (e - b)).get! j = _; rw [get_blit _ _ _ _ (by omega) hj, Nat.zero_add, h.cont _ (by omega), Nat.add_assoc]) h.ph h.n) ?_
    rintro p ⟨q1, q2, e', q3, q4, q5, q6⟩
    exact ⟨q1, q2, r - b, e', ⟨q3, rfl, by omega, by rw [q4], q5, q6⟩, by rw [q4]⟩
  · have hb0 : b = 0 := by have := of_decide_eq_false hd; omega
    subst hb0
    refine sat_mono (fillTail_win (A := A) (bx := bx) (k := k) (r := r) (e := e) (x := { x with r := ((r - 0 : Nat) : Int), e := ((e - 0 : Nat) : Int) }) rfl rfl (by omega) h.hm hbs h.cont h.ph h.n) ?_
    rintro p ⟨q1, q2, e', q3, q4, q5, q6⟩
    exact ⟨q1, q2, r, e', ⟨q3, rfl, by omega, by rw [q4], q5, q6⟩, by rw [q4]⟩
/-- Where a segment begins, in the buffer's own count. -/
def BAt (b : Option Nat) (xb : Int) (k p : Nat) : Prop :=
  match b with
  | none => xb = -1
  | some c => ∃ d : Nat, xb = d ∧ c = k + d ∧ c ≤ p
theorem fill_win {A : Ad} {x : Raw} {bx : List Value} {k r e : Nat} {b : Option Nat} (h : Win A x k r e) (hb : BAt b x.b k (k + r)) :
    (fillT A x bx).sat fun p => p.1 = .val (.tuple #[]) ∧ p.2.bx = bx ∧ ∃ b0 r' e', Filled A x k r p.2.st (k + b0) r' e' b0 ∧ BAt b p.2.st.b (k + b0) (k + r) := by
  unfold fillT
  cases b with
  | none =>
    have hb' : x.b = -1 := hb
    refine ⟨fun hd => ?_, fun _ => ?_⟩
    · have := of_decide_eq_true hd; omega
    · rw [h.hr]
      refine sat_mono (fillMid_win (bx := bx) r h (Nat.le_refl _)) ?_
      rintro p ⟨q1, q2, r', e', q3, q4⟩
      exact ⟨q1, q2, r, r', e', q3, by rw [q4]; exact hb'⟩
  | some c =>
    obtain ⟨d, hd1, hd2, hd3⟩ := hb
    refine ⟨fun _ => ?_, fun hd => ?_⟩
    · rw [hd1]
      have hw : Win A { x with b := 0 } k r e := ⟨h.hr, h.he, h.re, h.hm, h.bs, h.cont, h.sent, h.ph, h.io, h.n⟩
      refine sat_mono (fillMid_win (bx := bx) d hw (by omega)) ?_
      rintro p ⟨q1, q2, r', e', q3, q4⟩
      refine ⟨q1, q2, d, r', e', ⟨q3.win, q3.pos, q3.pos2, q3.same, q3.first, q3.last⟩, 0, q4, by omega, by omega⟩
    · have := of_decide_eq_false hd; omega
end Sc
end Go.Proofs.YtogkcphobhhbdaaDoor

/- source.nextch comes to what the plain function says. -/
namespace Go.Proofs.YtogkcphobhhbdaaDoor
open Go Go.RowKit
namespace Sc
open Ev
set_option maxRecDepth 100000
/-- The same but for what reading changes. -/
def SameR (x x' : Raw) : Prop := x' = { x with buf := x'.buf, io := x'.io, b := x'.b, r := x'.r, e := x'.e, m := x'.m }
theorem SameR.refl (x : Raw) : SameR x x := rfl
theorem SameR.trans {x y z : Raw} (h : SameR x y) (h' : SameR y z) : SameR x z := by
  unfold SameR at *
  rw [h'] 
  rw [h]
/-- Where the loop that fills ends. -/
structure Full (A : Ad) (b : Option Nat) (x : Raw) (p : Nat) (x' : Raw) : Prop where
  win : ∃ k r e, Win A x' k r e ∧ p = k + r ∧ BAt b x'.b k p ∧ (r = e → x'.io = true)
  same : SameR x x'
  m : x'.m = A.src.size
theorem round_small {A : Ad} {x : Raw} {k r e : Nat} (h : Win A x k r e) : w64 (x.e - x.r) = ((e - r : Nat) : Int) := by
  have := h.e_le; have := h.re
  rw [h.he, h.hr, w64_id (by omega) (by omega)]; omega
theorem round_size {A : Ad} {x : Raw} {k r e : Nat} (h : Win A x k r e) : (x.buf.extract x.r.toNat x.e.toNat).size = e - r := by
  have := h.e_le; have := h.bs
  rw [h.he, h.hr, Int.toNat_natCast, Int.toNat_natCast, extract_size _ _ _ (by omega)]
theorem round_sat {A : Ad} {x : Raw} {bx : List Value} {k r e : Nat} (h : Win A x k r e) {more : Tree (Ex × E (RY A))} {P : Ex × E (RY A) → Prop}
    (hout : r < e → (nOut A x bx).sat P) (hmore : e - r < 4 → more.sat P) : (nRoundT A x bx more).sat P := by
  have hre := h.re
  have hel := h.e_le
  have hbs := h.bs
  unfold nRoundT
  rw [round_small h, round_size h]
  refine ⟨fun h0 => ⟨⟨by rw [h.hr]; omega, by rw [h.hr, h.he]; omega, by rw [h.he]; omega⟩, fun h1 => hmore (by have := of_decide_eq_true h0; omega), fun h1 => ⟨hout ?_, hmore (by have := of_decide_eq_true h0; omega)⟩⟩, fun h0 => hout (by have := of_decide_eq_false h0; omega)⟩
  have : ¬ e - r = 0 := fun e0 => by rw [e0] at h1; cases h1
  omega
theorem loop0 {A : Ad} {x : Raw} {bx : List Value} {k r e : Nat} {b : Option Nat} (h : Win A x k r e) (hb : BAt b x.b k (k + r)) (hm : x.m = A.src.size) {K : Raw → List Value → Prop} (hK : ∀ x', Full A b x (k + r) x' → K x' bx) (hio : x.io = true) (n : Nat) :
    loopP A (n + 1) x bx K := by
  unfold loopP
  rw [if_pos hio]
  have hk := hK x ⟨⟨k, r, e, h, rfl, hb, fun _ => hio⟩, rfl, hm⟩
  exact round_sat h (fun _ => ⟨rfl, hk⟩) (fun _ => ⟨rfl, hk⟩)
theorem loop1 {A : Ad} {x : Raw} {bx : List Value} {k r e : Nat} {b : Option Nat} (h : Win A x k r e) (hb : BAt b x.b k (k + r)) (hm : x.m = A.src.size) {K : Raw → List Value → Prop} (hK : ∀ x', Full A b x (k + r) x' → K x' bx) (hio : x.io = false) (n : Nat) :
    loopP A (n + 2) x bx K := by
  unfold loopP
  rw [if_neg (by simp [hio])]
  refine round_sat h (fun hlt => ⟨rfl, hK x ⟨⟨k, r, e, h, rfl, hb, fun he => by omega⟩, rfl, hm⟩⟩) (fun _ => ?_)
  unfold fillK
  rw [sat_bind]
  refine sat_mono (fill_win h hb) ?_
  rintro p ⟨q1, q2, b0, r', e', hf, hb'⟩
  show loopP A (n + 1) p.2.st p.2.bx K
  rw [q2]
  have hw := hf.win
  have hpos : k + r = (k + b0) + r' := by have := hf.pos2; omega
  rw [hpos] at hb'
  have hs : SameR x p.2.st := hf.same
  refine loop0 hw hb' (hf.last hm).1 (fun x' hx' => hK x' ⟨?_, hs.trans hx'.same, hx'.m⟩) (hf.last hm).2 n
  obtain ⟨k2, r2, e2, g1, g2, g3, g4⟩ := hx'.win
  exact ⟨k2, r2, e2, g1, by omega, by rw [hpos]; exact g3, g4⟩
theorem loop_abs {A : Ad} {x : Raw} {bx : List Value} {k r e : Nat} {b : Option Nat} (h : Win A x k r e) (hb : BAt b x.b k (k + r)) {K : Raw → List Value → Prop} (hK : ∀ x', Full A b x (k + r) x' → K x' bx) : loopP A 4 x bx K := by
  by_cases hm : x.m = A.src.size
  · cases hio : x.io with
    | true => exact loop0 h hb hm hK hio 3
    | false => exact loop1 h hb hm hK hio 2
  · have hio : x.io = false := by
      cases hio : x.io with
      | true => exact absurd (h.io hio) hm
      | false => rfl
    have hm0 : x.m = 0 := by rcases h.ph with h1 | h1; exact absurd h1 hm; exact h1
    unfold loopP
    rw [if_neg (by simp [hio])]
    have hz := h.hm
    have hre := h.re
    refine round_sat h (fun hlt => by omega) (fun _ => ?_)
    unfold fillK
    rw [sat_bind]
    refine sat_mono (fill_win h hb) ?_
    rintro p ⟨q1, q2, b0, r', e', hf, hb'⟩
    show loopP A 3 p.2.st p.2.bx K
    rw [q2]
    have hw := hf.win
    have hpos : k + r = (k + b0) + r' := by have := hf.pos2; omega
    rw [hpos] at hb'
    have hs : SameR x p.2.st := hf.same
    have hK' : ∀ x', Full A b p.2.st (k + b0 + r') x' → K x' bx := fun x' hx' => by
      refine hK x' ⟨?_, hs.trans hx'.same, hx'.m⟩
      obtain ⟨k2, r2, e2, g1, g2, g3, g4⟩ := hx'.win
      exact ⟨k2, r2, e2, g1, by omega, by rw [hpos]; exact g3, g4⟩
    exact loop1 hw hb' (hf.first hm).1 hK' (hf.first hm).2 1
theorem dec_at {A : Ad} {x : Raw} {k r e : Nat} (h : Win A x k r e) (hm : x.m = A.src.size) (hlt : r < e) : Lib.decodeGo (x.buf.extract x.r.toNat x.e.toNat) = Utf8.decode A.src (k + r) := by
  have hel := h.e_le
  have hbs := h.bs
  have hke : k + e = A.src.size := by rw [← hm]; exact h.hm.symm
  rw [← Lib.decodeGo_extract A.src (k + r) (by omega)]
  congr 1
  rw [h.hr, h.he, Int.toNat_natCast, Int.toNat_natCast]
  have hsz : (x.buf.extract r e).size = (A.src.extract (k + r) A.src.size).size := by
    rw [extract_size _ _ _ (by omega), extract_size _ _ _ (Nat.le_refl _)]; omega
  have hget : ∀ j, j < e - r → (x.buf.extract r e).get! j = (A.src.extract (k + r) A.src.size).get! j := fun j hj => by
    rw [extract_get _ _ _ _ (by omega) hj, extract_get _ _ _ _ (Nat.le_refl _) (by omega), h.cont _ (by omega), Nat.add_assoc]
  apply ByteArray.ext
  apply Array.ext
  · exact hsz
  · intro i h1 h2
    have h1' : i < (x.buf.extract r e).size := h1
    rw [extract_size _ _ _ (by omega)] at h1'
    have := hget i h1'
    have e1 : (x.buf.extract r e).get! i = (x.buf.extract r e).data[i] := by show (x.buf.extract r e).data[i]! = _; rw [getElem!_pos _ i h1]
    have e2 : (A.src.extract (k + r) A.src.size).get! i = (A.src.extract (k + r) A.src.size).data[i] := by show (A.src.extract (k + r) A.src.size).data[i]! = _; rw [getElem!_pos _ i h2]
    rw [← e1, ← e2]; exact this
theorem dec_pos (s : ByteArray) (i : Nat) : 1 ≤ (Utf8.decode s i).2 ∧ (Utf8.decode s i).2 ≤ 4 := by
  unfold Utf8.decode
  simp only
  repeat' split
  all_goals simp
theorem dec_le (s : ByteArray) (i : Nat) (h : i < s.size) : i + (Utf8.decode s i).2 ≤ s.size := by
  have := Lib.decodeGo_le_size (s.extract i s.size)
  rw [Lib.decodeGo_extract s i h, extract_size _ _ _ (Nat.le_refl _)] at this
  omega
theorem u64_small {n : Int} (h0 : 0 ≤ n) (h1 : n < 18446744073709551616) : u64 n = n := by
  show IntKind.u64.wrap n = n
  simp only [IntKind.wrap]
  simp [IntKind.bits, IntKind.signed]
  omega
/-- What is demanded where the place has gone on. -/
def lookP (A : Ad) (n : Nat) (x : Raw) (bx : List Value) (K : Raw → List Value → Prop) : Prop := (nLook A x bx).sat fun xe => match xe.1 with
    | .ret => K xe.2.c.st xe.2.c.bx
    | .goto l => l = 0 ∧ nextP A n xe.2.c.st xe.2.c.bx K
    | .normal => loopP A 4 xe.2.c.st xe.2.c.bx fun x' bx' => (nAft A x' bx').sat fun ye => match ye.1 with
      | .ret => K ye.2.c.st ye.2.c.bx
      | .normal => K ye.2.c.st ye.2.c.bx
      | .goto l => l = 0 ∧ nextP A n ye.2.c.st ye.2.c.bx K
      | _ => False
    | _ => False
/-- A character that is passed over. -/
theorem redo_at {A : Ad} {n : Nat} {x : Raw} {bx : List Value} {K : Raw → List Value → Prop} {w : Nat} (hch : ¬ x.ch = 10) (hw : x.chw = w) (hw4 : w ≤ 4) (h : lookP A n { x with col0 := u64 (x.col0 + w) } bx K) : nextP A (n + 1) x bx K := by
  unfold nextP nBefore
  have e : u64 (x.col0 + u64 x.chw) = u64 (x.col0 + w) := by rw [hw, u64_small (n := (w : Int)) (by omega) (by omega)]
  refine ⟨fun h0 => absurd (by simpa using h0) hch, fun _ => ?_⟩
  rw [e]
  exact h
/-- Where a character has been read. -/
structure Done (A : Ad) (b : Option Nat) (x : Raw) (R : Rd) (x' : Raw) : Prop where
  win : ∃ k r e, Win A x' k r e ∧ R.p = k + r ∧ R.chw ≤ r ∧ BAt b x'.b k (R.p - R.chw)
  same : SameR { x with ch := R.ch, chw := R.chw, col0 := R.col, notes := R.notes } x'
  m : x'.m = A.src.size
theorem BAt.mono {b : Option Nat} {xb : Int} {k p q : Nat} (h : BAt b xb k p) (hq : p ≤ q) : BAt b xb k q := by
  cases b with
  | none => exact h
  | some c => obtain ⟨d, h1, h2, h3⟩ := h; exact ⟨d, h1, h2, Nat.le_trans h3 hq⟩
theorem Win.with {A : Ad} {x : Raw} {k r e : Nat} (h : Win A x k r e) {y : Raw} (h1 : y.buf = x.buf) (h2 : y.io = x.io) (h3 : y.e = x.e) (h4 : y.m = x.m) {r' : Nat} (h5 : y.r = r') (h6 : r' ≤ e) : Win A y k r' e :=
  ⟨h5, by rw [h3]; exact h.he, h6, by rw [h4]; exact h.hm, by rw [h1]; exact h.bs, by rw [h1]; exact h.cont, by rw [h1]; exact h.sent, by rw [h4]; exact h.ph, by rw [h2, h4]; exact h.io, h.n⟩
theorem i32_byte (b : UInt8) : IntKind.i32.wrap (b.toNat : Int) = b.toNat := by
  have := b.toNat_lt
  rw [IntKind.wrap_i32]; omega
end Sc
end Go.Proofs.YtogkcphobhhbdaaDoor

/- source.nextch comes to what the plain function says: characters. -/
namespace Go.Proofs.YtogkcphobhhbdaaDoor
open Go Go.RowKit
namespace Sc
open Ev
set_option maxRecDepth 100000
theorem get_decode_small {s : ByteArray} {i : Nat} (h : (s.get! i).toNat < 128) : Utf8.decode s i = ((s.get! i).toNat, 1) := by
  unfold Utf8.decode
  simp only [Nat.add_zero]
  rw [if_pos h]
/-- From where the place has gone on: what is read. -/
theorem look_abs {A : Ad} {b : Option Nat} : ∀ (f n : Nat) (x : Raw) (bx : List Value) (k r e : Nat) (fresh : Bool) (K : Raw → List Value → Prop), Win A x k r e → BAt b x.b k (k + r) →
    (fresh = true → x.m = 0 ∧ A.src.size ≠ 0) → (fresh = false → x.m = A.src.size) → A.src.size - (k + r) < f → f ≤ n + 1 →
    (∀ x', Done A b x (readAt A.src x.line0 f fresh (k + r) x.col0 x.notes) x' → K x' bx) → lookP A n x bx K := by
  intro f
  induction f with
  | zero => intro n x bx k r e fresh K _ _ _ _ h; omega
  | succ f ih =>
    intro n x bx k r e fresh K h hb hf1 hf2 hfu hn hK
    have hre := h.re
    have hel := h.e_le
    have hbs := h.bs
    have hhm := h.hm
    have er : x.r.toNat = r := by rw [h.hr]; exact Int.toNat_natCast r
    have ew : w64 (x.r + 1) = ((r + 1 : Nat) : Int) := by rw [h.hr, w64_id (by omega) (by omega)]; omega
    unfold lookP nLook
    rw [er, i32_byte]
    refine ⟨⟨by rw [h.hr]; omega, by omega⟩, fun h0 => ?_, fun h0 => ?_⟩
    · -- one byte
      have hlt128 : ((x.buf.get! r).toNat : Int) < 128 := of_decide_eq_true h0
      have hlt : r < e := by
        rcases Nat.lt_or_ge r e with h1 | h1
        · exact h1
        · exfalso
          have : r = e := by omega
          rw [this, h.sent] at hlt128
          have e128 : ((128 : UInt8).toNat : Int) = 128 := rfl
          omega
      have hbyte := h.cont r hlt
      have hm : x.m = A.src.size := by
        rcases h.ph with h1 | h1
        · exact h1
        · omega
      have hfr : fresh = false := by
        cases fresh with
        | false => rfl
        | true => exact absurd (show A.src.size = 0 by have := (hf1 rfl).1; omega) (hf1 rfl).2
      subst hfr
      have hp : k + r < A.src.size := by omega
      have hW : ∀ y : Raw, y.buf = x.buf → y.io = x.io → y.e = x.e → y.m = x.m → y.r = ((r + 1 : Nat) : Int) → Win A y k (r + 1) e := fun y h1 h2 h3 h4 h5 => h.with h1 h2 h3 h4 h5 (by omega)
      rw [hbyte] at hlt128
      have hlt' : (A.src.get! (k + r)).toNat < 128 := by omega
      rw [hbyte, ew]
      simp only [readAt, if_pos hp, if_pos hlt'] at hK
      refine ⟨fun h1 => ?_, fun h1 => ?_⟩
      · have hz : (A.src.get! (k + r)).toNat = 0 := by
          have h2 : ((A.src.get! (k + r)).toNat : Int) = 0 := by simpa using h1
          omega
        rw [if_pos (by simp [hz])] at hK
        refine ⟨rfl, ?_⟩
        cases n with
        | zero => exfalso; omega
        | succ n =>
          refine redo_at (w := 1) (by show ¬ ((A.src.get! (k + r)).toNat : Int) = 10; rw [hz]; decide) rfl (by omega) ?_
          refine ih n _ bx k (r + 1) e false K (hW _ rfl rfl rfl rfl rfl) (hb.mono (by omega)) (fun h => by cases h) (fun _ => hm) (by omega) (by omega) (fun x' hd => hK x' ⟨hd.win, ?_, hd.m⟩)
          exact hd.same
      · have hz : ¬ (A.src.get! (k + r)).toNat = 0 := fun e0 => by rw [e0] at h1; cases h1
        rw [if_neg (fun h => hz h.1)] at hK
        refine hK _ ⟨⟨k, r + 1, e, hW _ rfl rfl rfl rfl rfl, by simp only; omega, by simp only; omega, ?_⟩, rfl, hm⟩
        simp only
        exact hb.mono (by omega)
    · -- more, or none
      have hge128 : ¬ ((x.buf.get! r).toNat : Int) < 128 := of_decide_eq_false h0
      have hx1 : Win A { x with ch := ((x.buf.get! r).toNat : Int) } k r e := ⟨h.hr, h.he, h.re, h.hm, h.bs, h.cont, h.sent, h.ph, h.io, h.n⟩
      show loopP A 4 { x with ch := ((x.buf.get! r).toNat : Int) } bx _
      refine loop_abs hx1 hb (fun y hy => ?_)
      obtain ⟨k2, r2, e2, g1, g2, g3, g4⟩ := hy.win
      have gre := g1.re
      have gel := g1.e_le
      have gbs := g1.bs
      have ghm := g1.hm
      have gm := hy.m
      have gs := hy.same
      unfold nAft nAfter
      refine ⟨fun h1 => ?_, fun h1 => ?_⟩
      · have h2 : y.r = y.e := by simpa using h1
        have h3 : r2 = e2 := by have := g1.hr; have := g1.he; omega
        rw [if_pos (g4 h3)]
        have hnp : ¬ k + r < A.src.size := by omega
        simp only [readAt, if_neg hnp] at hK
        refine hK _ ⟨⟨k2, r2, e2, ⟨g1.hr, g1.he, g1.re, g1.hm, g1.bs, g1.cont, g1.sent, g1.ph, g1.io, g1.n⟩, g2, by simp only; omega, ?_⟩, ?_, gm⟩
        · simp only
          rw [Nat.sub_zero]
          exact g3
        · unfold SameR at *
          rw [gs]; try rfl
      · have h3 : r2 < e2 := by
          have h2 : ¬ y.r = y.e := by simpa using h1
          have := g1.hr; have := g1.he; omega
        have hp : k + r < A.src.size := by omega
        have hpe : k + r = k2 + r2 := g2
        have hdec := dec_at g1 gm h3
        rw [← hpe] at hdec
        have hp4 := dec_pos A.src (k + r)
        have hple := dec_le A.src (k + r) hp
        rw [hdec]
        refine ⟨⟨by rw [g1.hr]; omega, by rw [g1.hr, g1.he]; omega, by rw [g1.he]; omega⟩, ?_⟩
        generalize hdd : Utf8.decode A.src (k + r) = d at *
        obtain ⟨c, w⟩ := d
        simp only at hp4 hple ⊢
        have ew2 : w64 (y.r + w) = ((r2 + w : Nat) : Int) := by rw [g1.hr, w64_id (by omega) (by omega)]; omega
        rw [ew2]
        have hW : ∀ z : Raw, z.buf = y.buf → z.io = y.io → z.e = y.e → z.m = y.m → z.r = ((r2 + w : Nat) : Int) → Win A z k2 (r2 + w) e2 := fun z h1 h2 h3 h4 h5 => g1.with h1 h2 h3 h4 h5 (by omega)
        have hl0 : y.line0 = x.line0 := by rw [gs]; try rfl
        have hc0 : y.col0 = x.col0 := by rw [gs]; try rfl
        have hns : y.notes = x.notes := by rw [gs]; try rfl
        have hyb : y.b = y.b := rfl
        -- where it is a byte of its own, it can stand first alone
        have hfirst : (A.src.get! (k + r)).toNat < 128 → c = (A.src.get! (k + r)).toNat ∧ w = 1 ∧ ¬ ((A.src.get! (k + r)).toNat = 0 ∧ fresh = false) := by
          intro hlt
          have := get_decode_small hlt
          rw [hdd] at this
          simp only [Prod.mk.injEq] at this
          refine ⟨this.1, this.2, fun ⟨_, hfr⟩ => ?_⟩
          have hm := hf2 hfr
          have hr2 : r < e := by omega
          rw [h.cont r hr2] at hge128
          omega
        have hbom : ¬ (c = 0xFFFD ∧ w = 1) → ((nBom A { y with ch := (c : Int), chw := (w : Int), r := ((r2 + w : Nat) : Int) } bx).sat fun ye => match ye.1 with
            | .ret => K ye.2.c.st ye.2.c.bx
            | .normal => K ye.2.c.st ye.2.c.bx
            | .goto l => l = 0 ∧ nextP A n ye.2.c.st ye.2.c.bx K
            | _ => False) := by
          intro hnu
          unfold nBom
          refine ⟨fun h5 => ?_, fun h5 => ?_⟩
          · have hc : c = 0xFEFF := by
              have h6 : (c : Int) = 65279 := by simpa using h5
              omega
            have hnlt : ¬ (A.src.get! (k + r)).toNat < 128 := fun hlt => by have := hfirst hlt; omega
            cases n with
            | zero => exfalso; omega
            | succ n =>
            have key : ∀ ns, ns = (if x.line0 > 0 ∨ x.col0 > 0 then x.notes ++ [⟨u64 (1 + x.line0), u64 (1 + x.col0), msgBOM⟩] else x.notes) →
                nextP A (n + 1) { y with ch := (c : Int), chw := (w : Int), r := ((r2 + w : Nat) : Int), notes := ns } bx K := by
              intro ns hns2
              refine redo_at (w := w) (by show ¬ (c : Int) = 10; omega) rfl (by omega) ?_
              refine ih n _ bx k2 (r2 + w) e2 false K (hW _ rfl rfl rfl rfl rfl) (g3.mono (by omega)) (fun h => by cases h) (fun _ => gm) (by omega) (by omega) (fun x' hd => hK x' ?_)
              have hR : readAt A.src x.line0 (f + 1) fresh (k + r) x.col0 x.notes = readAt A.src y.line0 f false (k2 + (r2 + w)) (u64 (y.col0 + w)) ns := by
                simp only [readAt, if_pos hp, if_neg hnlt, hdd, if_neg hnu, if_pos hc, hl0, hc0, hns2]
                rw [show k + r + w = k2 + (r2 + w) from by omega]
              refine ⟨?_, ?_, hd.m⟩
              · rw [hR]; exact hd.win
              · rw [hR]
                refine SameR.trans ?_ hd.same
                unfold SameR at *
                rw [gs]; try rfl
            refine ⟨fun h6 => ⟨rfl, ?_⟩, fun h6 => ⟨fun h7 => ⟨rfl, ?_⟩, fun h7 => ⟨rfl, ?_⟩⟩⟩
            · have h8 : y.line0 > 0 := of_decide_eq_true h6
              have := key _ (if_pos (.inl (by rw [← hl0]; exact h8))).symm
              rw [← hl0, ← hc0, ← hns] at this
              exact this
            · have h8 : y.col0 > 0 := of_decide_eq_true h7
              have := key _ (if_pos (.inr (by rw [← hc0]; exact h8))).symm
              rw [← hl0, ← hc0, ← hns] at this
              exact this
            · have h8 : ¬ y.line0 > 0 := of_decide_eq_false h6
              have h9 : ¬ y.col0 > 0 := of_decide_eq_false h7
              have := key _ (if_neg (by rw [← hl0, ← hc0]; exact fun h => h.elim h8 h9)).symm
              rw [← hns] at this
              exact this
          · have hc : ¬ c = 0xFEFF := fun e0 => by rw [e0] at h5; cases h5
            refine hK _ ?_
            have hR : readAt A.src x.line0 (f + 1) fresh (k + r) x.col0 x.notes = ⟨k + r + w, x.col0, c, w, x.notes⟩ := by
              by_cases hlt : (A.src.get! (k + r)).toNat < 128
              · obtain ⟨h7, h8, h9⟩ := hfirst hlt
                simp only [readAt, if_pos hp, if_pos hlt, if_neg h9, h7, h8]
              · simp only [readAt, if_pos hp, if_neg hlt, hdd, if_neg hnu, if_neg hc]
            rw [hR]
            refine ⟨⟨k2, r2 + w, e2, hW _ rfl rfl rfl rfl rfl, by simp only; omega, by simp only; omega, ?_⟩, ?_, gm⟩
            · simp only
              rw [show k + r + w - w = k + r from by omega]
              exact g3
            · simp only
              unfold SameR at *
              rw [gs]; try rfl
        unfold nRune
        refine ⟨fun h4 => ⟨fun h5 => ?_, fun h5 => ?_⟩, fun h4 => ?_⟩
        · -- no character
          have hc : c = 0xFFFD := by
            have h6 : (c : Int) = 65533 := by simpa using h4
            omega
          have hw1 : w = 1 := by
            have h6 : (w : Int) = 1 := by simpa using h5
            omega
          have hnlt : ¬ (A.src.get! (k + r)).toNat < 128 := fun hlt => by have := hfirst hlt; omega
          refine ⟨rfl, ?_⟩
          cases n with
          | zero => exfalso; omega
          | succ n =>
          have hR : readAt A.src x.line0 (f + 1) fresh (k + r) x.col0 x.notes = readAt A.src y.line0 f false (k2 + (r2 + w)) (u64 (y.col0 + w)) (y.notes ++ [⟨u64 (1 + y.line0), u64 (1 + y.col0), msgUTF⟩]) := by
            simp only [readAt, if_pos hp, if_neg hnlt, hdd, if_pos (And.intro hc hw1), hl0, hc0, hns]
            rw [hw1, show k + r + 1 = k2 + (r2 + 1) from by omega]
            rfl
          refine redo_at (w := w) (by show ¬ (c : Int) = 10; omega) rfl (by omega) ?_
          refine ih n _ bx k2 (r2 + w) e2 false K (hW _ rfl rfl rfl rfl rfl) (g3.mono (by omega)) (fun h => by cases h) (fun _ => gm) (by omega) (by omega) (fun x' hd => hK x' ?_)
          refine ⟨?_, ?_, hd.m⟩
          · rw [hR]; exact hd.win
          · rw [hR]
            refine SameR.trans ?_ hd.same
            unfold SameR at *
            rw [gs]; try rfl
        · exact hbom (fun ⟨_, h6⟩ => by rw [h6] at h5; cases h5)
        · exact hbom (fun ⟨h6, _⟩ => by rw [h6] at h4; cases h4)
end Sc
end Go.Proofs.YtogkcphobhhbdaaDoor

/- A small evaluator of the model's code over known state. Generic part 13: pieces of code told by plain transformers; how they are put together. -/
namespace Go.Proofs.YtogkcphobhhbdaaDoor
open Go Go.RowKit
namespace Ev
set_option maxRecDepth 100000
/-- Less is known of the slots, or the same otherwise said. -/
def Lax {Y : Sys} (e e' : E Y) : Prop := e'.c = e.c ∧ ∀ i, look e'.tm i = .junk ∨ look e'.tm i = look e.tm i ∨ ∃ v, toVal (look e.tm i) = some v ∧ look e'.tm i = .val v
theorem Lax.refl {Y : Sys} (e : E Y) : Lax e e := ⟨rfl, fun _ => .inr (.inl rfl)⟩
theorem Weak.lax {Y : Sys} {e e' : E Y} (h : Weak e e') : Lax e e' := ⟨h.1, fun i => (h.2 i).imp id .inl⟩
theorem InvE.lax {Y : Sys} {N : Nat} {e e' : E Y} {bl : List Nat} {a : Act} {w : World} (h : InvE Y N e bl a w) (hw : Lax e e') : InvE Y N e' bl a w := by
  refine ⟨by rw [hw.1]; exact h.core, h.defers, h.size, fun i => ?_⟩
  rcases hw.2 i with h1 | h1 | ⟨v, h1, h2⟩
  · rw [h1]; exact trivial
  · rw [h1]; exact h.rel i
  · rw [h2]; exact rel_toVal (h.rel i) h1
/-- A slot as a plain value, where it is one. -/
def plainSV (v : SV) : SV := match toVal v with
  | some u => .val u
  | none => v
def keepV (tm : List (Nat × SV)) : List Nat → List (Nat × SV)
  | [] => []
  | i :: r => (i, plainSV (look tm i)) :: keepV tm r
/-- Only these slots are kept in mind, plainly. -/
def pare {Y : Sys} (keep : List Nat) (e : E Y) : E Y := ⟨e.c, keepV e.tm keep⟩
theorem keepV_look (tm : List (Nat × SV)) (i : Nat) : ∀ keep, look (keepV tm keep) i = .junk ∨ look (keepV tm keep) i = look tm i ∨ ∃ v, toVal (look tm i) = some v ∧ look (keepV tm keep) i = .val v
  | [] => .inl rfl
  | j :: r => by
    simp only [keepV, look_cons]
    by_cases h : i = j
    · rw [if_pos h, ← h]
      unfold plainSV
      split
      · rename_i u hu; exact .inr (.inr ⟨u, hu, rfl⟩)
      · exact .inr (.inl rfl)
    · rw [if_neg h]; exact keepV_look tm i r
theorem lax_pare {Y : Sys} (keep : List Nat) (e : E Y) : Lax e (pare keep e) := ⟨rfl, fun i => keepV_look e.tm i keep⟩
/-- What a piece of code comes to, from the states F p. -/
structure At (Y : Sys) (N : Nat) (c : Code) {π : Type} (F : π → E Y) (g : π → Tree (Ex × E Y)) : Prop where
  wp : ∀ (p : π) (bl : List Nat) (a : Act) (w : World) (Q : Ex × E Y → Prop), InvE Y N (F p) bl a w → (g p).sat Q → c.wp Y.P (Post Y N Q bl w) a w
  mono : ∀ (p : π) (Q : Ex × E Y → Prop), Y.big (F p).c.st → (g p).sat Q → ∃ q, Q q ∧ Y.big q.2.c.st
theorem post_lax {Y : Sys} {N : Nat} {Q : Ex × E Y → Prop} {bl : List Nat} {w : World} {e : Exit} {a' : Act} {w' : World}
    (h : Post Y N (fun xe => ∃ e', Lax xe.2 e' ∧ Q (xe.1, e')) bl w e a' w') : Post Y N Q bl w e a' w' := by
  rcases h with ⟨x, e1, bl', ⟨e', hl, hq⟩, hx, hI, hext⟩ | ⟨hx, p, ⟨e', hl, hq⟩, hb⟩
  · exact .inl ⟨x, e', bl', hq, hx, hI.lax hl, hext⟩
  · exact .inr ⟨hx, _, hq, by show Y.big e'.c.st; rw [hl.1]; exact hb⟩
/-- A piece as the evaluator tells it. -/
theorem At.ev {Y : Sys} (hY : Laws Y) {C : Cfg Y} (hC : C.Ok) {c : Code} {π : Type} {F : π → E Y} {g : π → Tree (Ex × E Y)}
    (h : ∀ p (Q : Ex × E Y → Prop), (g p).sat Q → (evCode C c (F p)).sat fun xe => ∃ e', Lax xe.2 e' ∧ Q (xe.1, e')) : At Y C.N c F g where
  wp := fun p bl a w Q hI hs => wp_mono (code_sound hY hC c (F p) bl a w _ hI (h p Q hs)) fun _ _ _ hp => post_lax hp
  mono := fun p Q hb hs => by
    obtain ⟨⟨x, e1⟩, ⟨e', hl, hq⟩, hb'⟩ := code_mono hY hC c (F p) _ hb (h p Q hs)
    exact ⟨_, hq, by show Y.big e'.c.st; rw [hl.1]; exact hb'⟩
/-- As the evaluator tells it, pared. -/
theorem At.pared {Y : Sys} (hY : Laws Y) {C : Cfg Y} (hC : C.Ok) {c : Code} {π : Type} {F : π → E Y} {g : π → Tree (Ex × E Y)} (keep : Ex → List Nat)
    (h : ∀ p (Q : Ex × E Y → Prop), (g p).sat Q → ((evCode C c (F p)).bind fun xe => .leaf (xe.1, pare (keep xe.1) xe.2)).sat Q) : At Y C.N c F g :=
  At.ev hY hC fun p Q hs => by
    have := h p Q hs
    rw [sat_bind] at this
    exact sat_mono this fun xe hq => ⟨_, lax_pare _ _, hq⟩
theorem At.refine {Y : Sys} {N : Nat} {c : Code} {π ρ : Type} {F : π → E Y} {g : π → Tree (Ex × E Y)} (hA : At Y N c F g) {F' : ρ → E Y} {g' : ρ → Tree (Ex × E Y)}
    (h : ∀ r (Q : Ex × E Y → Prop), (g' r).sat Q → ∃ p, Lax (F' r) (F p) ∧ (g p).sat fun xe => ∃ e', Lax xe.2 e' ∧ Q (xe.1, e')) : At Y N c F' g' where
  wp := fun r bl a w Q hI hs => by
    obtain ⟨p, hl, hs'⟩ := h r Q hs
    exact wp_mono (hA.wp p bl a w _ (hI.lax hl) hs') fun _ _ _ hp => post_lax hp
  mono := fun r Q hb hs => by
    obtain ⟨p, hl, hs'⟩ := h r Q hs
    obtain ⟨⟨x, e1⟩, ⟨e', hl2, hq⟩, hb'⟩ := hA.mono p _ (by rw [hl.1]; exact hb) hs'
    exact ⟨_, hq, by show Y.big e'.c.st; rw [hl2.1]; exact hb'⟩
/-- One piece behind another. -/
theorem At.seq {Y : Sys} {N : Nat} {a b : Code} {π ρ : Type} {F : π → E Y} {ga : π → Tree (Ex × E Y)} {F' : ρ → E Y} {gb : ρ → Tree (Ex × E Y)} (hA : At Y N a F ga) (hB : At Y N b F' gb)
    {g : π → Tree (Ex × E Y)} (h : ∀ p (Q : Ex × E Y → Prop), (g p).sat Q → (ga p).sat fun xe => match xe.1 with
      | .normal => ∃ q, Lax xe.2 (F' q) ∧ (gb q).sat Q
      | _ => Q xe) : At Y N (.seq a b) F g where
  wp := fun p bl ac w Q hI hs => by
    refine wp_seq (wp_mono (hA.wp p bl ac w _ hI (h p Q hs)) ?_)
    rintro ex a1 w1 (⟨x1, e1, bl1, hq, rfl, hI1, hext⟩ | ⟨rfl, ⟨x1, e1⟩, hq, hb⟩)
    · obtain ⟨⟩ | ⟨id⟩ | ⟨l⟩ | ⟨⟩ := x1
      · obtain ⟨q, hl, hs'⟩ := hq
        exact wp_mono (hB.wp q bl1 a1 w1 Q (hI1.lax hl) hs') (fun _ _ _ hp => post_trans hext hp)
      · exact .inl ⟨_, _, _, hq, rfl, hI1, hext⟩
      · exact .inl ⟨_, _, _, hq, rfl, hI1, hext⟩
      · exact .inl ⟨_, _, _, hq, rfl, hI1, hext⟩
    · obtain ⟨⟩ | ⟨id⟩ | ⟨l⟩ | ⟨⟩ := x1
      · obtain ⟨q, hl, hs'⟩ := hq
        exact .inr ⟨rfl, hB.mono q Q (by rw [hl.1]; exact hb) hs'⟩
      · exact .inr ⟨rfl, _, hq, hb⟩
      · exact .inr ⟨rfl, _, hq, hb⟩
      · exact .inr ⟨rfl, _, hq, hb⟩
  mono := fun p Q hb hs => by
    obtain ⟨⟨x1, e1⟩, hq, hb1⟩ := hA.mono p _ hb (h p Q hs)
    obtain ⟨⟩ | ⟨id⟩ | ⟨l⟩ | ⟨⟩ := x1
    · obtain ⟨q, hl, hs'⟩ := hq
      exact hB.mono q Q (by rw [hl.1]; exact hb1) hs'
    · exact ⟨_, hq, hb1⟩
    · exact ⟨_, hq, hb1⟩
    · exact ⟨_, hq, hb1⟩
/-- The spine of a body, cut behind its first n parts. -/
def cutN : Nat → Code → Option (Code × Code)
  | 0, c => some (.skip, c)
  | n + 1, .seq a r => (cutN n r).map fun p => (.seq a p.1, p.2)
  | _ + 1, _ => none
def cutHead (n : Nat) (c : Code) : Code := match cutN n c with
  | some p => p.1
  | none => .skip
def cutTail (n : Nat) (c : Code) : Code := match cutN n c with
  | some p => p.2
  | none => .skip
def hasCut (n : Nat) (c : Code) : Bool := (cutN n c).isSome
theorem cut_wp {Y : Sys} (hY : Laws Y) {C : Cfg Y} (hC : C.Ok) {ρ : Type} {F' : ρ → E Y} {gb : ρ → Tree (Ex × E Y)} : ∀ (n : Nat) (c x y : Code), cutN n c = some (x, y) → At Y C.N y F' gb →
    ∀ (e : E Y) (bl : List Nat) (a : Act) (w : World) (Q : Ex × E Y → Prop), InvE Y C.N e bl a w → (evCode C x e).sat (fun xe => match xe.1 with
      | .normal => ∃ q, Lax xe.2 (F' q) ∧ (gb q).sat Q
      | _ => Q xe) → c.wp Y.P (Post Y C.N Q bl w) a w := by
  intro n
  induction n with
  | zero =>
    intro c x y hc hB e bl a w Q hI h
    simp only [cutN, Option.some.injEq, Prod.mk.injEq] at hc
    obtain ⟨rfl, rfl⟩ := hc
    obtain ⟨q, hl, hs⟩ := h
    exact hB.wp q bl a w Q (hI.lax hl) hs
  | succ n ih =>
    intro c x y hc hB e bl a w Q hI h
    cases c with
    | seq c1 r =>
      simp only [cutN] at hc
      obtain ⟨⟨x', y'⟩, hp, heq⟩ := Option.map_eq_some_iff.1 hc
      simp only [Prod.mk.injEq] at heq
      obtain ⟨rfl, rfl⟩ := heq
      rw [seq_sat] at h
      refine wp_seq (wp_mono (code_sound hY hC c1 e bl a w _ hI h) ?_)
      rintro ex a1 w1 (⟨x1, e1, bl1, hq, rfl, hI1, hext⟩ | ⟨rfl, ⟨x1, e1⟩, hq, hb⟩)
      · obtain ⟨⟩ | ⟨id⟩ | ⟨l⟩ | ⟨⟩ := x1
        · exact wp_mono (ih r x' y' hp hB e1 bl1 a1 w1 Q hI1 hq) (fun _ _ _ hp => post_trans hext hp)
        · exact .inl ⟨_, _, _, hq, rfl, hI1, hext⟩
        · exact .inl ⟨_, _, _, hq, rfl, hI1, hext⟩
        · exact .inl ⟨_, _, _, hq, rfl, hI1, hext⟩
      · obtain ⟨⟩ | ⟨id⟩ | ⟨l⟩ | ⟨⟩ := x1
        · obtain ⟨⟨x2, e2⟩, hq2, hb2⟩ := code_mono hY hC x' e1 _ hb hq
          obtain ⟨⟩ | ⟨id⟩ | ⟨l⟩ | ⟨⟩ := x2
          · obtain ⟨q, hl, hs⟩ := hq2
            exact .inr ⟨rfl, hB.mono q Q (by rw [hl.1]; exact hb2) hs⟩
          · exact .inr ⟨rfl, _, hq2, hb2⟩
          · exact .inr ⟨rfl, _, hq2, hb2⟩
          · exact .inr ⟨rfl, _, hq2, hb2⟩
        · exact .inr ⟨rfl, _, hq, hb⟩
        · exact .inr ⟨rfl, _, hq, hb⟩
        · exact .inr ⟨rfl, _, hq, hb⟩
    | _ => simp [cutN] at hc
theorem head_has {n : Nat} {c : Code} (h : hasCut n c = true) : cutN n c = some (cutHead n c, cutTail n c) := by
  unfold hasCut at h
  cases hc : cutN n c with
  | none => rw [hc] at h; cases h
  | some p => simp [cutHead, cutTail, hc]
/-- A body told by the evaluator up to a cut, and by a piece behind it. -/
theorem At.cut {Y : Sys} (hY : Laws Y) {C : Cfg Y} (hC : C.Ok) {c : Code} (n : Nat) (hc : hasCut n c = true) {π ρ : Type} {F : π → E Y} {F' : ρ → E Y} {gb : ρ → Tree (Ex × E Y)} (hB : At Y C.N (cutTail n c) F' gb)
    {g : π → Tree (Ex × E Y)} (h : ∀ p (Q : Ex × E Y → Prop), (g p).sat Q → (evCode C (cutHead n c) (F p)).sat fun xe => match xe.1 with
      | .normal => ∃ q, Lax xe.2 (F' q) ∧ (gb q).sat Q
      | _ => Q xe) : At Y C.N c F g where
  wp := fun p bl a w Q hI hs => cut_wp hY hC n c _ _ (head_has hc) hB (F p) bl a w Q hI (h p Q hs)
  mono := fun p Q hb hs => by
    obtain ⟨⟨x2, e2⟩, hq2, hb2⟩ := code_mono hY hC (cutHead n c) (F p) _ hb (h p Q hs)
    obtain ⟨⟩ | ⟨id⟩ | ⟨l⟩ | ⟨⟩ := x2
    · obtain ⟨q, hl, hs⟩ := hq2
      exact hB.mono q Q (by rw [hl.1]; exact hb2) hs
    · exact ⟨_, hq2, hb2⟩
    · exact ⟨_, hq2, hb2⟩
    · exact ⟨_, hq2, hb2⟩
/-- A loop: at its head the state is F p; one round leads to a smaller p', or out. -/
theorem At.loop {Y : Sys} {N : Nat} {π : Type} {F : π → E Y} {gb : π → Tree (Ex × E Y)} (μ : π → Nat) {h : π → Tree (Ex × E Y)} {id : Nat} {b : Code} (hB : At Y N b F gb)
    (round : ∀ p (Q : Ex × E Y → Prop), (h p).sat Q → (gb p).sat fun xe => match xe.1 with
      | .normal => ∃ p', Lax xe.2 (F p') ∧ μ p' < μ p ∧ (h p').sat Q
      | .exit i => if i = id then ∃ e'', Lax xe.2 e'' ∧ Q (.normal, e'') else Q xe
      | _ => Q xe)
    (hmono : ∀ p (Q : Ex × E Y → Prop), Y.big (F p).c.st → (h p).sat Q → ∃ q, Q q ∧ Y.big q.2.c.st) : At Y N (.block id (.loop b)) F h where
  mono := hmono
  wp := by
    intro p0 bl0 a0 w0 Q hI0 hs0
    refine wp_block (wp_loop_rounds (μ p0 + 1) ?_)
    have key : ∀ (n : Nat) (p : π) (bl : List Nat) (a : Act) (w : World), InvE Y N (F p) bl a w → Ext Y bl0 bl w0 w → (h p).sat Q → μ p < n →
        Code.rounds Y.P b (Exit.inBlock id (Post Y N Q bl0 w0)) n a w := by
      intro n
      induction n with
      | zero => intro p bl a w _ _ _ hlt; omega
      | succ n ih =>
        intro p bl a w hI hext hs hlt
        rw [rounds_succ]
        refine wp_mono (hB.wp p bl a w _ hI (round p Q hs)) ?_
        rintro ex a1 w1 (⟨x1, e1, bl1, hq, rfl, hI1, hext1⟩ | ⟨rfl, ⟨x1, e1⟩, hq, hb1⟩)
        case inr =>
          refine .inr ⟨rfl, ?_⟩
          obtain ⟨⟩ | ⟨i⟩ | ⟨l⟩ | ⟨⟩ := x1
          · obtain ⟨p', hw, hlt', hs'⟩ := hq
            exact hmono p' Q (by rw [hw.1]; exact hb1) hs'
          · simp only at hq
            by_cases hi : i = id
            · rw [if_pos hi] at hq
              obtain ⟨e'', hw, hq⟩ := hq
              exact ⟨_, hq, by show Y.big e''.c.st; rw [hw.1]; exact hb1⟩
            · rw [if_neg hi] at hq
              exact ⟨_, hq, hb1⟩
          · exact ⟨_, hq, hb1⟩
          · exact ⟨_, hq, hb1⟩
        obtain ⟨⟩ | ⟨i⟩ | ⟨l⟩ | ⟨⟩ := x1
        · obtain ⟨p', hw, hlt', hs'⟩ := hq
          exact ih p' bl1 a1 w1 (hI1.lax hw) (hext.trans hext1) hs' (by omega)
        · simp only [Ex.toExit, Exit.then, Exit.inBlock]
          simp only at hq
          by_cases hi : i = id
          · rw [if_pos hi] at hq ⊢
            obtain ⟨e'', hw, hq⟩ := hq
            exact .inl ⟨.normal, _, _, hq, rfl, hI1.lax hw, hext.trans hext1⟩
          · rw [if_neg hi] at hq ⊢
            exact .inl ⟨.exit i, _, _, hq, rfl, hI1, hext.trans hext1⟩
        · exact .inl ⟨_, _, _, hq, rfl, hI1, hext.trans hext1⟩
        · exact .inl ⟨_, _, _, hq, rfl, hI1, hext.trans hext1⟩
    exact key _ p0 bl0 a0 w0 hI0 (Ext.refl _ _ _) hs0 (Nat.lt_succ_self _)
/-- A block that is left by its own exit. -/
theorem At.block {Y : Sys} {N : Nat} {π : Type} {F : π → E Y} {gb : π → Tree (Ex × E Y)} {id : Nat} {b : Code} (hB : At Y N b F gb) {g : π → Tree (Ex × E Y)}
    (h : ∀ p (Q : Ex × E Y → Prop), (g p).sat Q → (gb p).sat fun xe => match xe.1 with
      | .exit i => if i = id then Q (.normal, xe.2) else Q xe
      | _ => Q xe) : At Y N (.block id b) F g where
  mono := fun p Q hb hs => by
    obtain ⟨⟨x1, e1⟩, hq, hb1⟩ := hB.mono p _ hb (h p Q hs)
    obtain ⟨⟩ | ⟨i⟩ | ⟨l⟩ | ⟨⟩ := x1
    · exact ⟨_, hq, hb1⟩
    · simp only at hq
      split at hq
      · exact ⟨_, hq, hb1⟩
      · exact ⟨_, hq, hb1⟩
    · exact ⟨_, hq, hb1⟩
    · exact ⟨_, hq, hb1⟩
  wp := fun p bl a w Q hI hs => by
    refine wp_block (wp_mono (hB.wp p bl a w _ hI (h p Q hs)) ?_)
    rintro ex a1 w1 (⟨x1, e1, bl1, hq, rfl, hI1, hext1⟩ | ⟨rfl, ⟨x1, e1⟩, hq, hb1⟩)
    · obtain ⟨⟩ | ⟨i⟩ | ⟨l⟩ | ⟨⟩ := x1
      · exact .inl ⟨_, _, _, hq, rfl, hI1, hext1⟩
      · simp only [Ex.toExit, Exit.inBlock]
        simp only at hq
        by_cases hi : i = id
        · rw [if_pos hi] at hq ⊢
          exact .inl ⟨.normal, _, _, hq, rfl, hI1, hext1⟩
        · rw [if_neg hi] at hq ⊢
          exact .inl ⟨.exit i, _, _, hq, rfl, hI1, hext1⟩
      · exact .inl ⟨_, _, _, hq, rfl, hI1, hext1⟩
      · exact .inl ⟨_, _, _, hq, rfl, hI1, hext1⟩
    · refine .inr ⟨rfl, ?_⟩
      obtain ⟨⟩ | ⟨i⟩ | ⟨l⟩ | ⟨⟩ := x1
      · exact ⟨_, hq, hb1⟩
      · simp only at hq
        split at hq
        · exact ⟨_, hq, hb1⟩
        · exact ⟨_, hq, hb1⟩
      · exact ⟨_, hq, hb1⟩
      · exact ⟨_, hq, hb1⟩
/-- A piece as a block's summary for the evaluator. -/
theorem At.blk {Y : Sys} {N : Nat} {id : Nat} {b : Code} {g : E Y → Tree (Ex × E Y)} (h : At Y N (.block id b) (fun e : E Y => e) g) : BlkOk Y N id b g :=
  ⟨fun e bl a w Q hI hs => h.wp e bl a w Q hI hs, fun e Q hb hs => h.mono e Q hb hs⟩
/-- A scope: at its labels the state is F l p; a pass from there leads to a smaller one, or out. -/
theorem At.scope {Y : Sys} {N : Nat} {π ρ : Type} {F0 : ρ → E Y} {g0 : ρ → Tree (Ex × E Y)} {F : Nat → π → E Y} {gp : Nat → π → Tree (Ex × E Y)} (μ : Nat → π → Nat) {h : Nat → π → Tree (Ex × E Y)} {b : Code} {rest : Nat → Code}
    (hb0 : At Y N b F0 g0) (hB : ∀ l, At Y N (rest l) (F l) (gp l))
    (pass : ∀ l p (Q : Ex × E Y → Prop), (h l p).sat Q → findLabel b l = some (rest l) ∧ (gp l p).sat fun xe => match xe.1 with
      | .goto l' => ∃ p', Lax xe.2 (F l' p') ∧ μ l' p' < μ l p ∧ (h l' p').sat Q
      | _ => Q xe)
    (hmono : ∀ l p (Q : Ex × E Y → Prop), Y.big (F l p).c.st → (h l p).sat Q → ∃ q, Q q ∧ Y.big q.2.c.st)
    {g : ρ → Tree (Ex × E Y)}
    (first : ∀ r (Q : Ex × E Y → Prop), (g r).sat Q → (g0 r).sat fun xe => match xe.1 with
      | .goto l' => ∃ p', Lax xe.2 (F l' p') ∧ (h l' p').sat Q
      | _ => Q xe) : At Y N (.scope b) F0 g where
  wp := fun r0 bl0 a0 w0 Q hI0 hs0 => by
    refine wp_scope_any (fun n l a w => ∃ p bl, InvE Y N (F l p) bl a w ∧ Ext Y bl0 bl w0 w ∧ (h l p).sat Q ∧ μ l p = n) ?_ ?_
    · refine wp_mono (hb0.wp r0 bl0 a0 w0 _ hI0 (first r0 Q hs0)) ?_
      rintro ex a1 w1 (⟨x1, e1, bl1, hq, rfl, hI1, hext1⟩ | ⟨rfl, ⟨x1, e1⟩, hq, hb1⟩)
      · obtain ⟨⟩ | ⟨i⟩ | ⟨l⟩ | ⟨⟩ := x1
        · exact .inl ⟨.normal, _, _, hq, rfl, hI1, hext1⟩
        · exact .inl ⟨.exit i, _, _, hq, rfl, hI1, hext1⟩
        · obtain ⟨p', hw, hs'⟩ := hq
          exact ⟨_, p', bl1, hI1.lax hw, hext1, hs', rfl⟩
        · exact .inl ⟨.ret, _, _, hq, rfl, hI1, hext1⟩
      · refine .inr ⟨rfl, ?_⟩
        obtain ⟨⟩ | ⟨i⟩ | ⟨l⟩ | ⟨⟩ := x1
        · exact ⟨_, hq, hb1⟩
        · exact ⟨_, hq, hb1⟩
        · obtain ⟨p', hw, hs'⟩ := hq
          exact hmono l p' Q (by rw [hw.1]; exact hb1) hs'
        · exact ⟨_, hq, hb1⟩
    · rintro n l a w ⟨p, bl, hI, hext, hs, hn⟩
      obtain ⟨hf, hp⟩ := pass l p Q hs
      refine ⟨rest l, hf, wp_mono ((hB l).wp p bl a w _ hI hp) ?_⟩
      rintro ex a1 w1 (⟨x1, e1, bl1, hq, rfl, hI1, hext1⟩ | ⟨rfl, ⟨x1, e1⟩, hq, hb1⟩)
      · obtain ⟨⟩ | ⟨i⟩ | ⟨l'⟩ | ⟨⟩ := x1
        · exact .inl ⟨.normal, _, _, hq, rfl, hI1, hext.trans hext1⟩
        · exact .inl ⟨.exit i, _, _, hq, rfl, hI1, hext.trans hext1⟩
        · obtain ⟨p', hw, hlt, hs'⟩ := hq
          exact ⟨_, by rw [← hn]; exact hlt, p', bl1, hI1.lax hw, hext.trans hext1, hs', rfl⟩
        · exact .inl ⟨.ret, _, _, hq, rfl, hI1, hext.trans hext1⟩
      · refine .inr ⟨rfl, ?_⟩
        obtain ⟨⟩ | ⟨i⟩ | ⟨l'⟩ | ⟨⟩ := x1
        · exact ⟨_, hq, hb1⟩
        · exact ⟨_, hq, hb1⟩
        · obtain ⟨p', hw, _, hs'⟩ := hq
          exact hmono l' p' Q (by rw [hw.1]; exact hb1) hs'
        · exact ⟨_, hq, hb1⟩
  mono := fun r Q hb hs => by
    obtain ⟨⟨x1, e1⟩, hq, hb1⟩ := hb0.mono r _ hb (first r Q hs)
    obtain ⟨⟩ | ⟨i⟩ | ⟨l⟩ | ⟨⟩ := x1
    · exact ⟨_, hq, hb1⟩
    · exact ⟨_, hq, hb1⟩
    · obtain ⟨p', hw, hs'⟩ := hq
      exact hmono l p' Q (by rw [hw.1]; exact hb1) hs'
    · exact ⟨_, hq, hb1⟩
/-- A function whose body is told. -/
theorem At.fn {Y : Sys} {N : Nat} {f : FuncId} {fn : Func} {b : Code} (hf : Y.P.funcs[f]? = some fn) (hb : fn.body = some b) (hN : fn.ntmps = N) {π : Type} {arg : π → List SV} {core : π → Core Y} {g : π → Tree (Ex × E Y)}
    (hlen : ∀ p, (arg p).length ≤ N) (hAt : At Y N b (fun p => ⟨core p, number 0 (arg p)⟩) g) {G : List SV → Core Y → Tree (SV × Core Y)}
    (hG : ∀ args c (Q : SV × Core Y → Prop), (G args c).sat Q → ∃ p, arg p = args ∧ core p = c ∧ (g p).sat fun xe => (evEnd fn xe).sat Q) : SumOk Y f #[] true G := by
  intro args c bl w vals Q hargs hc h
  obtain ⟨p, rfl, rfl, hs⟩ := hG args c Q h
  have hl := rels_length hargs
  have hlen' := hlen p
  simp only [Array.append_empty]
  refine calls_of_wp hf hb ?_
  have hI : InvE Y N ⟨core p, number 0 (arg p)⟩ bl { tmps := vals.toArray ++ Array.replicate (fn.ntmps - vals.toArray.size) undef, defers := [] } w := by
    refine ⟨hc, rfl, by simp [hN]; omega, fun i => ?_⟩
    have := look_number hargs 0 i
    simp only [Nat.zero_le, if_true, Nat.sub_zero] at this
    have e : (vals.toArray ++ Array.replicate (fn.ntmps - vals.toArray.size) undef).getD i undef = vals.getD i undef := by
      simp only [Array.getD_eq_getD_getElem?, List.getD_eq_getElem?_getD, Array.getElem?_append]
      by_cases hi : i < vals.length
      · simp [hi]
      · have : vals[i]? = none := List.getElem?_eq_none (by omega)
        simp [hi, Array.getElem?_replicate]
        split <;> rfl
    rw [e]; exact this
  refine wp_mono (hAt.wp p bl _ w _ hI hs) ?_
  rintro ex a' w' (⟨x, e', bl', hq, rfl, hI', hext⟩ | ⟨rfl, ⟨x, e'⟩, hq, hb'⟩)
  case inr =>
    refine .inr ⟨rfl, ?_⟩
    unfold evEnd at hq
    obtain ⟨⟩ | ⟨id⟩ | ⟨l⟩ | ⟨⟩ := x
    · simp only at hq
      split at hq
      · exact ⟨_, hq, hb'⟩
      · exact hq.elim
    · exact hq.elim
    · exact hq.elim
    · simp only at hq
      split at hq
      · exact ⟨_, hq, hb'⟩
      · exact hq.elim
  have fin : ∀ r, evRes e'.tm fn.results.toList = some r → Q (r, e'.c) →
      a'.defers = [] ∧ ∃ v, (results fn a'.tmps).run Y.P w' = .ok v w' ∧ ((∃ sv c' v' bl', Q (sv, c') ∧ Ending.returned v = .returned v' ∧ Rel Y bl' w' sv v' ∧ InvC Y bl' c' w' ∧ Ext Y bl bl' w w' ∧
        (true = false → ∀ o, w'.cell? ⟨Y.B, o, none⟩ = w.cell? ⟨Y.B, o, none⟩)) ∨ (Ending.returned v = .outgrown ∧ ∃ p, Q p ∧ Y.big p.2.st)) := by
    intro r hr hQ
    obtain ⟨v, hrun, hrel⟩ := res_sound (a := a') hI'.rel hr
    exact ⟨hI'.defers, v, hrun, .inl ⟨r, e'.c, v, bl', hQ, rfl, hrel, hI'.core, hext, fun h => by cases h⟩⟩
  unfold evEnd at hq
  obtain ⟨⟩ | ⟨id⟩ | ⟨l⟩ | ⟨⟩ := x
  · simp only at hq
    split at hq
    · rename_i r hr; exact fin r hr hq
    · exact hq.elim
  · exact hq.elim
  · exact hq.elim
  · simp only at hq
    split at hq
    · rename_i r hr; exact fin r hr hq
    · exact hq.elim
theorem At.fn_mono {Y : Sys} {N : Nat} {fn : Func} {b : Code} {π : Type} {F : π → E Y} {g : π → Tree (Ex × E Y)} (hAt : At Y N b F g) {G : List SV → Core Y → Tree (SV × Core Y)}
    (hG : ∀ args c (Q : SV × Core Y → Prop), (G args c).sat Q → ∃ p, (F p).c = c ∧ (g p).sat fun xe => (evEnd fn xe).sat Q) : GMono G := by
  intro args c Q hb h
  obtain ⟨p, rfl, hs⟩ := hG args c Q h
  obtain ⟨⟨x, e'⟩, hq, hb'⟩ := hAt.mono p _ hb hs
  unfold evEnd at hq
  obtain ⟨⟩ | ⟨id⟩ | ⟨l⟩ | ⟨⟩ := x
  · simp only at hq
    split at hq
    · exact ⟨_, hq, hb'⟩
    · exact hq.elim
  · exact hq.elim
  · exact hq.elim
  · simp only at hq
    split at hq
    · exact ⟨_, hq, hb'⟩
    · exact hq.elim
/-! Trees that hold one answer. -/
def Tree.get {α : Type} (d : α) : Tree α → α
  | .leaf a => a
  | .test b t e => if b = true then t.get d else e.get d
  | .req _ k => k.get d
  | .any t _ => t.get d
  | .fail => d
theorem get_of_sat {α : Type} {d : α} {t : Tree α} {P : α → Prop} (h : t.sat P) : P (t.get d) := by
  induction t with
  | leaf a => exact h
  | test b t e iht ihe =>
    simp only [Tree.get]
    cases b with
    | true => exact iht (h.1 rfl)
    | false => exact ihe (h.2 rfl)
  | req p k ih => exact ih h.2
  | any t e iht _ => exact iht h.1
  | fail => exact h.elim
/-- No answer is left open, and every demand is met. -/
def Tree.safe {α : Type} : Tree α → Prop
  | .leaf _ => True
  | .test b t e => (b = true → t.safe) ∧ (b = false → e.safe)
  | .req p k => p ∧ k.safe
  | .any _ _ => False
  | .fail => False
theorem sat_of_get {α : Type} {d : α} {t : Tree α} {P : α → Prop} (hs : t.safe) (h : P (t.get d)) : t.sat P := by
  induction t with
  | leaf a => exact h
  | test b t e iht ihe =>
    simp only [Tree.get] at h
    refine ⟨fun hb => ?_, fun hb => ?_⟩
    · rw [if_pos hb] at h; exact iht (hs.1 hb) h
    · rw [if_neg (by simp [hb])] at h; exact ihe (hs.2 hb) h
  | req p k ih => exact ⟨hs.1, ih hs.2 h⟩
  | any t e _ _ => exact hs.elim
  | fail => exact hs.elim
def Tree.map {α β : Type} (f : α → β) (t : Tree α) : Tree β := t.bind fun a => .leaf (f a)
end Ev
end Go.Proofs.YtogkcphobhhbdaaDoor

/- The scanner's reader as a system over the plain state. -/
namespace Go.Proofs.YtogkcphobhhbdaaDoor
open Go Go.RowKit
namespace Sc
open Ev
set_option maxRecDepth 100000
/-- The block's fields as the plain state says. -/
def Flds (st : St) (x : Raw) : Prop := x = { x with line0 := st.line0, col0 := st.col0, ch := st.ch, chw := st.chw, mode := st.mode, nlsemi := st.nlsemi, line := st.line, col := st.col, blank := st.blank, tok := st.tok, lit := st.lit, bad := st.bad, kind := st.kind, op := st.op, prec := st.prec, notes := st.notes }
/-- The plain state of a block, ahead of a reading. -/
structure Abs0 (A : Ad) (st : St) (x : Raw) : Prop where
  win : ∃ k r e, Win A x k r e ∧ st.p = k + r ∧ BAt st.b x.b k st.p
  fr1 : st.fresh = true → st.p = 0 ∧ x.m = 0
  fr0 : st.fresh = false → x.m = A.src.size
  w4 : st.chw ≤ 4
  flds : Flds st x
structure Abs (A : Ad) (st : St) (x : Raw) : Prop where
  win : ∃ k r e, Win A x k r e ∧ st.p = k + r ∧ st.chw ≤ r ∧ BAt st.b x.b k (st.p - st.chw)
  fr1 : st.fresh = true → st.p = 0 ∧ x.m = 0
  fr0 : st.fresh = false → x.m = A.src.size
  w4 : st.chw ≤ 4
  flds : Flds st x
theorem Abs.weak {A : Ad} {st : St} {x : Raw} (h : Abs A st x) : Abs0 A st x := by
  obtain ⟨k, r, e, h1, h2, h3, h4⟩ := h.win
  exact ⟨⟨k, r, e, h1, h2, h4.mono (by omega)⟩, h.fr1, h.fr0, h.w4, h.flds⟩
theorem readAt_w (src : ByteArray) (line : Int) : ∀ (f : Nat) (fresh : Bool) (p : Nat) (col : Int) (ns : List Note), (readAt src line f fresh p col ns).chw ≤ 4
  | 0, _, _, _, _ => by simp [readAt]
  | f + 1, fresh, p, col, ns => by
    simp only [readAt]
    repeat' split
    all_goals first
      | exact readAt_w src line f _ _ _ _
      | exact (dec_pos src p).2
      | simp
/-- nextch comes to what the plain function says. -/
theorem nextP_abs {A : Ad} {st : St} {x : Raw} {bx : List Value} (h : Abs0 A st x) {K : Raw → List Value → Prop} (hK : ∀ x', Abs A (nextch A.src st) x' → K x' bx) : nextP A 5001 x bx K := by
  obtain ⟨k, r, e, hw, hp, hb⟩ := h.win
  have hn := hw.n
  have hfl : x = { x with line0 := st.line0, col0 := st.col0, ch := st.ch, chw := st.chw, mode := st.mode, nlsemi := st.nlsemi, line := st.line, col := st.col, blank := st.blank, tok := st.tok, lit := st.lit, bad := st.bad, kind := st.kind, op := st.op, prec := st.prec, notes := st.notes } := h.flds
  have ech : x.ch = st.ch := by rw [hfl]
  have echw : x.chw = st.chw := by rw [hfl]
  have el0 : x.line0 = st.line0 := by rw [hfl]
  have ec0 : x.col0 = st.col0 := by rw [hfl]
  have ens : x.notes = st.notes := by rw [hfl]
  have fin : ∀ (line col : Int), line = nlLine st → col = nlCol st → lookP A 5000 { x with line0 := line, col0 := col } bx K := by
    intro line col hl hc
    have hb' : BAt st.b x.b k (k + r) := by rw [← hp]; exact hb
    have hw' : Win A { x with line0 := line, col0 := col } k r e := ⟨hw.hr, hw.he, hw.re, hw.hm, hw.bs, hw.cont, hw.sent, hw.ph, hw.io, hw.n⟩
    have key : ∀ fresh, (fresh = true → x.m = 0 ∧ A.src.size ≠ 0) → (fresh = false → x.m = A.src.size) → readAt A.src (nlLine st) (A.src.size + 1) fresh st.p (nlCol st) st.notes = readAt A.src (nlLine st) (A.src.size + 1) st.fresh st.p (nlCol st) st.notes → lookP A 5000 { x with line0 := line, col0 := col } bx K := by
      intro fresh h1 h2 h3
      refine look_abs (A.src.size + 1) 5000 { x with line0 := line, col0 := col } bx k r e fresh K hw' hb' h1 h2 (by omega) (by omega) (fun x' hd => hK x' ?_)
      have hd' : Done A st.b { x with line0 := line, col0 := col } (readAt A.src (nlLine st) (A.src.size + 1) st.fresh st.p (nlCol st) st.notes) x' := by
        have h4 := hd
        have e0 : readAt A.src line (A.src.size + 1) fresh (k + r) col x.notes = readAt A.src (nlLine st) (A.src.size + 1) st.fresh st.p (nlCol st) st.notes := by
          rw [ens, hl, hc, ← hp, h3]
        rw [show ({ x with line0 := line, col0 := col } : Raw).line0 = line from rfl, show ({ x with line0 := line, col0 := col } : Raw).col0 = col from rfl, show ({ x with line0 := line, col0 := col } : Raw).notes = x.notes from rfl, e0] at h4
        exact h4
      obtain ⟨k2, r2, e2, g1, g2, g3, g4⟩ := hd'.win
      refine ⟨⟨k2, r2, e2, g1, g2, g3, g4⟩, (fun h => by cases h), fun _ => hd'.m, readAt_w _ _ _ _ _ _ _, ?_⟩
      have hs := hd'.same
      unfold SameR at hs
      unfold Flds
      rw [hs, hfl, hl]
      rfl
    cases hfr : st.fresh with
    | false => exact key false (fun h => by cases h) (fun _ => h.fr0 hfr) (by rw [hfr])
    | true =>
      obtain ⟨h1, h2⟩ := h.fr1 hfr
      by_cases hz : A.src.size = 0
      · refine key false (fun h => by cases h) (fun _ => by rw [h2, hz]) ?_
        have : ¬ st.p < A.src.size := by omega
        simp only [readAt, if_neg this]
      · exact key true (fun _ => ⟨h2, hz⟩) (fun h => by cases h) (by rw [hfr])
  unfold nextP nBefore
  refine ⟨fun h0 => ?_, fun h0 => ?_⟩
  · have h10 : st.ch = 10 := by
      have : x.ch = 10 := by simpa using h0
      rw [← ech]; exact this
    exact fin _ _ (by rw [el0]; unfold nlLine; rw [if_pos h10]) (by unfold nlCol; rw [if_pos h10])
  · have h10 : ¬ st.ch = 10 := fun h1 => by
      have : x.ch = 10 := by rw [ech]; exact h1
      simp [this] at h0
    have hfin := fin x.line0 (u64 (x.col0 + u64 x.chw)) (by rw [el0]; unfold nlLine; rw [if_neg h10]) (by
      have := h.w4
      rw [ec0, echw, u64_small (n := (st.chw : Int)) (by omega) (by omega)]; unfold nlCol; rw [if_neg h10])
    exact hfin
end Sc
end Go.Proofs.YtogkcphobhhbdaaDoor

/- The scanner over the plain state: a system for the evaluator. -/
namespace Go.Proofs.YtogkcphobhhbdaaDoor
open Go Go.RowKit
namespace Sc
open Ev
set_option maxRecDepth 100000
def sget (st : St) : Nat → Option SV
  | 1 => some (.fn 0)
  | 9 => some (.val (.int .i32 st.ch))
  | 11 => some (.val (.int .u64 st.mode))
  | 12 => some (.val (.bool st.nlsemi))
  | 13 => some (.val (.int .u64 st.line))
  | 14 => some (.val (.int .u64 st.col))
  | 15 => some (.val (.bool st.blank))
  | 16 => some (.val (.int .u64 st.tok))
  | 17 => some (.val (.string st.lit))
  | 18 => some (.val (.bool st.bad))
  | 19 => some (.val (.int .u8 st.kind))
  | 20 => some (.val (.int .u64 st.op))
  | 21 => some (.val (.int .i64 st.prec))
  | _ => none
def sset (st : St) (o : Nat) (v : SV) : Option St :=
  match o with
  | 12 => (boolSV v).map fun n => { st with nlsemi := n }
  | 13 => (intSV .u64 v).map fun n => { st with line := n }
  | 14 => (intSV .u64 v).map fun n => { st with col := n }
  | 15 => (boolSV v).map fun n => { st with blank := n }
  | 16 => (intSV .u64 v).map fun n => { st with tok := n }
  | 17 => (strSV v).map fun n => { st with lit := n }
  | 18 => (boolSV v).map fun n => { st with bad := n }
  | 19 => (intSV .u8 v).map fun n => { st with kind := n }
  | 20 => (intSV .u64 v).map fun n => { st with op := n }
  | 21 => (intSV .i64 v).map fun n => { st with prec := n }
  | _ => none
def SInv (A : Ad) (st : St) (w : World) : Prop := ∃ x, RInv A x w ∧ Abs A st x
noncomputable def SY (A : Ad) : Ev.Sys := mkSys A A.buf St sget sset (SInv A) (·.notes) (fun _ _ _ => none) (fun _ _ _ _ => none) (fun _ _ => True) (fun _ _ _ _ => True)
theorem flds_get {st : St} {x : Raw} (h : Flds st x) {o : Nat} {sv : SV} (hg : sget st o = some sv) : rget x o = some sv := by
  unfold Flds at h
  unfold sget at hg
  split at hg
  all_goals first
    | (cases hg; done)
    | (rw [h]; exact hg)
theorem flds_set {A : Ad} {st st' : St} {x : Raw} (h : Abs A st x) {o : Nat} {sv : SV} (hs : sset st o sv = some st') : ∃ x', rset x o sv = some x' ∧ Abs A st' x' := by
  have hw := h.win
  have h1 := h.fr1
  have h2 := h.fr0
  have h3 := h.w4
  have hf : Flds st x := h.flds
  unfold Flds at hf
  have hwin : ∀ y : Raw, y.buf = x.buf → y.io = x.io → y.b = x.b → y.r = x.r → y.e = x.e → y.m = x.m → ∃ k r e, Win A y k r e ∧ st.p = k + r ∧ st.chw ≤ r ∧ BAt st.b y.b k (st.p - st.chw) := by
    intro y e1 e2 e3 e4 e5 e6
    obtain ⟨k, r, e, g1, g2, g3, g4⟩ := hw
    exact ⟨k, r, e, g1.with e1 e2 e5 e6 (by rw [e4]; exact g1.hr) g1.re, g2, g3, by rw [e3]; exact g4⟩
  unfold sset at hs
  split at hs
  all_goals first
    | (cases hs; done)
    | (obtain ⟨n, hn, rfl⟩ := Option.map_eq_some_iff.1 hs
       refine ⟨_, by simp only [rset, hn, Option.map_some]; rfl, ?_⟩
       refine ⟨hwin _ rfl rfl rfl rfl rfl rfl, h1, h2, h3, ?_⟩
       unfold Flds
       rw [hf])
theorem sget_ok {A : Ad} {st : St} {w : World} {o : Nat} {sv : SV} (h : SInv A st w) (hg : sget st o = some sv) : ∃ v, w.cell? ⟨A.s, o, none⟩ = some v ∧ ∀ bl, Rel (SY A) bl w sv v := by
  obtain ⟨x, hx, ha⟩ := h
  exact rget_ok hx (flds_get ha.flds hg)
theorem sset_ok {A : Ad} {st st' : St} {w : World} {o : Nat} {sv : SV} {v : Value} (h : SInv A st w) (hs : sset st o sv = some st') (hv : RelV (SY A) sv v) :
    (∃ u, w.cell? ⟨A.s, o, none⟩ = some u) ∧ w.frozen? ⟨A.s, o, none⟩ = false ∧ v.cells = #[v] ∧ (∀ l, v ≠ .tuple l) ∧ (∀ l, v ≠ .agg l) ∧ SInv A st' (w.setCell ⟨A.s, o, none⟩ v) := by
  obtain ⟨x, hx, ha⟩ := h
  obtain ⟨x', hr, ha'⟩ := flds_set ha hs
  obtain ⟨g1, g2, g3, g4, g5, g6⟩ := rset_ok hx hr (v := v) hv
  exact ⟨g1, g2, g3, g4, g5, x', g6, ha'⟩
theorem sset_no {st st' : St} {o : Nat} {sv : SV} (h : sset st o sv = some st') (hs : storable sv = false) : False := by
  unfold sset at h
  split at h
  all_goals first
    | (cases h; done)
    | (obtain ⟨n, hn, _⟩ := Option.map_eq_some_iff.1 h
       first | exact intSV_no hn hs | exact strSV_no hn hs | exact boolSV_no hn hs)
theorem sset_notes {st st' : St} {o : Nat} {sv : SV} (h : sset st o sv = some st') : st'.notes = st.notes := by
  unfold sset at h
  split at h
  all_goals first
    | (cases h; done)
    | (obtain ⟨n, hn, rfl⟩ := Option.map_eq_some_iff.1 h; rfl)
theorem SLaws (A : Ad) (hA : A.Ok) : Laws (SY A) :=
  mk_laws A hA A.buf (.inl rfl) St sget sset (SInv A) (·.notes) _ _ _ _ (fun ⟨x, hx, _⟩ => ⟨x, hx⟩) sget_ok sset_ok sset_no sset_notes (fun ⟨x, hx, ha⟩ hk => ⟨x, hx.kept hk, ha⟩) (fun _ h => by cases h) (fun h => by cases h) (fun h => by cases h) (fun _ h => by cases h) (fun h => by cases h)
theorem ext_rs {A : Ad} {bl bl' : List Nat} {w w' : World} (h : Ext (RY A) bl bl' w w') : Ext (SY A) bl bl' w w' := ⟨⟨h.fr.os, h.fr.tape, h.fr.output, h.fr.size, h.fr.ty, h.fr.keep⟩, h.pre, h.new⟩
theorem rel_rs {A : Ad} {bl : List Nat} {w : World} {sv : SV} {v : Value} (h : Rel (RY A) bl w sv v) : Rel (SY A) bl w sv v := by
  cases sv <;> exact h
theorem rels_sr {A : Ad} {bl : List Nat} {w : World} {args : List SV} {vals : List Value} (h : Rels (SY A) bl w args vals) : Rels (RY A) bl w args vals := by
  induction h with
  | nil => exact .nil
  | cons h1 _ ih =>
    rename_i sv v l vs _
    refine .cons ?_ ih
    cases sv <;> exact h1
theorem notes_abs {A : Ad} {st : St} {x : Raw} (h : Abs A st x) : x.notes = st.notes := by
  have h : Flds st x := h.flds
  unfold Flds at h
  rw [h]
/-- What is told over the block as it lies is told over the plain state. -/
theorem lift_ok {A : Ad} {f : FuncId} {caps : Array Value} {dirty : Bool} {gR : List SV → Core (RY A) → Tree (SV × Core (RY A))} (h : SumOk (RY A) f caps dirty gR) {gS : List SV → Core (SY A) → Tree (SV × Core (SY A))}
    (hg : ∀ args st bx x (Q : SV × Core (SY A) → Prop), Abs A st x → (gS args ⟨st, bx⟩).sat Q → (gR args ⟨x, bx⟩).sat fun p => ∃ st', Abs A st' p.2.st ∧ Q (p.1, ⟨st', p.2.bx⟩)) : SumOk (SY A) f caps dirty gS := by
  intro args c bl w vals Q hargs hc hs
  obtain ⟨x, hx, ha⟩ := hc.inv
  have hc' : InvC (RY A) bl ⟨x, c.bx⟩ w := ⟨hx, hc.len, hc.nd, hc.cell, hc.free⟩
  refine (h args ⟨x, c.bx⟩ bl w vals _ (rels_sr hargs) hc' (hg args c.st c.bx x Q ha hs)).mono ?_
  rintro e w' (⟨sv, c', v, bl', ⟨st', ha', hq⟩, rfl, hrel, hinv, hext, hd⟩ | ⟨rfl, p, ⟨st', ha', hq⟩, hb⟩)
  · exact .inl ⟨sv, ⟨st', c'.bx⟩, v, bl', hq, rfl, rel_rs hrel, ⟨⟨c'.st, hinv.inv, ha'⟩, hinv.len, hinv.nd, hinv.cell, hinv.free⟩, ext_rs hext, hd⟩
  · refine .inr ⟨rfl, _, hq, ?_⟩
    have hb' : lim ≤ p.2.st.notes.length := hb
    show lim ≤ st'.notes.length
    rw [← notes_abs ha']
    exact hb'
end Sc
end Go.Proofs.YtogkcphobhhbdaaDoor

/- The reader's functions over the plain state. -/
namespace Go.Proofs.YtogkcphobhhbdaaDoor
open Go Go.RowKit
namespace Sc
open Ev
set_option maxRecDepth 100000
abbrev unit : SV := .val (.tuple #[])
/-- A function of the scanner alone that turns its plain state, where P. -/
noncomputable def onSt (A : Ad) (P : St → Prop) (f : St → St) (args : List SV) (c : Core (SY A)) : Tree (SV × Core (SY A)) :=
  match args with
  | [.st 0] => .req (P c.st) (.leaf (unit, ⟨f c.st, c.bx⟩))
  | _ => .fail
theorem onSt_mono {A : Ad} {P : St → Prop} {f : St → St} (hf : ∀ st, st.notes.length ≤ (f st).notes.length) : GMono (Y := SY A) (onSt A P f) := by
  intro args c Q hb h
  unfold onSt at h
  split at h
  · exact ⟨_, h.2, Nat.le_trans hb (hf c.st)⟩
  · exact h.elim
/-- The same, wherever. -/
noncomputable def onSt0 (A : Ad) (f : St → St) (args : List SV) (c : Core (SY A)) : Tree (SV × Core (SY A)) :=
  match args with
  | [.st 0] => .leaf (unit, ⟨f c.st, c.bx⟩)
  | _ => .fail
theorem onSt0_mono {A : Ad} {f : St → St} (hf : ∀ st, st.notes.length ≤ (f st).notes.length) : GMono (Y := SY A) (onSt0 A f) := by
  intro args c Q hb h
  unfold onSt0 at h
  split at h
  · exact ⟨_, h, Nat.le_trans hb (hf c.st)⟩
  · exact h.elim
theorem readAt_notes (src : ByteArray) (line : Int) : ∀ (f : Nat) (fresh : Bool) (p : Nat) (col : Int) (ns : List Note), ∃ l, (readAt src line f fresh p col ns).notes = ns ++ l
  | 0, _, _, _, ns => ⟨[], by simp [readAt]⟩
  | f + 1, fresh, p, col, ns => by
    have step : ∀ (p : Nat) (col : Int) (fresh : Bool) (more : List Note), ∃ l, (readAt src line f fresh p col (ns ++ more)).notes = ns ++ l := fun p col fresh more => by
      obtain ⟨l, hl⟩ := readAt_notes src line f fresh p col (ns ++ more)
      exact ⟨more ++ l, by rw [hl, List.append_assoc]⟩
    simp only [readAt]
    repeat' split
    all_goals first
      | exact step _ _ _ _
      | exact readAt_notes src line f _ _ _ ns
      | exact ⟨[], by simp⟩
theorem nextch_notes (src : ByteArray) (st : St) : ∃ l, (nextch src st).notes = st.notes ++ l := readAt_notes _ _ _ _ _ _ _
theorem nextch_len (src : ByteArray) (st : St) : st.notes.length ≤ (nextch src st).notes.length := by
  obtain ⟨l, hl⟩ := nextch_notes src st
  rw [hl, List.length_append]; omega
noncomputable def nextS (A : Ad) : Smy (SY A) := ⟨71, #[], true, onSt0 A (nextch A.src)⟩
theorem nextS_ok (A : Ad) (hA : A.Ok) : (nextS A).Ok := by
  refine ⟨fun args w => by kernel_rfl, lift_ok (next_ok A hA) (fun args st bx x Q ha h => ?_), onSt0_mono (A := A) (f := nextch A.src) (nextch_len A.src)⟩
  unfold nextS onSt0 at h
  simp only at h
  split at h
  · refine sat_mono (next_sat A hA (nextP_abs (K := fun x' bx' => Abs A (nextch A.src st) x' ∧ bx' = bx) ha.weak (fun x' ha' => ⟨ha', rfl⟩))) ?_
    rintro ⟨sv, c'⟩ ⟨h1, h2, h3⟩
    simp only at h1 h2 h3
    subst h1 h3
    exact ⟨_, h2, h⟩
  · exact h.elim
/-! start, stop, segment -/
theorem start_ev (A : Ad) (x : Raw) (bx : List Value) : evFn (cfg0 A Tryd.f72.ntmps) Tryd.f72 [.st 0] ⟨x, bx⟩ = .leaf (unit, ⟨{ x with b := w64 (x.r - x.chw) }, bx⟩) := by kernel_rfl
theorem stop_ev (A : Ad) (x : Raw) (bx : List Value) : evFn (cfg0 A Tryd.f69.ntmps) Tryd.f69 [.st 0] ⟨x, bx⟩ = .leaf (unit, ⟨{ x with b := -1 }, bx⟩) := by kernel_rfl
theorem segment_ev (A : Ad) (x : Raw) (bx : List Value) : evFn (cfg0 A Tryd.f97.ntmps) Tryd.f97 [.st 0] ⟨x, bx⟩ =
    .req (0 ≤ x.b ∧ x.b ≤ w64 (x.r - x.chw) ∧ w64 (x.r - x.chw) ≤ x.buf.size) (.leaf (.seg (x.buf.extract x.b.toNat (w64 (x.r - x.chw)).toNat), ⟨x, bx⟩)) := by kernel_rfl
theorem flds_chw {st : St} {x : Raw} (h : Flds st x) : x.chw = st.chw := by unfold Flds at h; rw [h]
noncomputable def startS (A : Ad) : Smy (SY A) := ⟨72, #[], true, onSt0 A start⟩
theorem startS_ok (A : Ad) (hA : A.Ok) : (startS A).Ok := by
  refine ⟨fun args w => by kernel_rfl, lift_ok (fn_sound (RLaws A hA) (cfg0_ok A hA Tryd.f72.ntmps) Tryd.func72) (fun args st bx x Q ha h => ?_), onSt0_mono (A := A) (f := start) (fun st => Nat.le_refl _)⟩
  unfold startS onSt0 at h
  simp only at h
  split at h
  · rw [start_ev]
    refine ⟨_, ?_, h⟩
    obtain ⟨k, r, e, g1, g2, g3, g4⟩ := ha.win
    have hel := g1.e_le; have hre := g1.re
    have hb : w64 (x.r - x.chw) = ((r - st.chw : Nat) : Int) := by rw [g1.hr, flds_chw ha.flds, w64_id (by omega) (by omega)]; omega
    refine ⟨⟨k, r, e, ⟨g1.hr, g1.he, g1.re, g1.hm, g1.bs, g1.cont, g1.sent, g1.ph, g1.io, g1.n⟩, g2, g3, r - st.chw, hb, by show st.p - st.chw = _; omega, Nat.le_refl _⟩, ha.fr1, ha.fr0, ha.w4, ?_⟩
    have hf : Flds st x := ha.flds
    unfold Flds at *
    rw [hf]; rfl
  · exact h.elim
noncomputable def stopS (A : Ad) : Smy (SY A) := ⟨69, #[], true, onSt0 A stop⟩
theorem stopS_ok (A : Ad) (hA : A.Ok) : (stopS A).Ok := by
  refine ⟨fun args w => by kernel_rfl, lift_ok (fn_sound (RLaws A hA) (cfg0_ok A hA Tryd.f69.ntmps) Tryd.func69) (fun args st bx x Q ha h => ?_), onSt0_mono (A := A) (f := stop) (fun st => Nat.le_refl _)⟩
  unfold stopS onSt0 at h
  simp only at h
  split at h
  · rw [stop_ev]
    refine ⟨_, ?_, h⟩
    obtain ⟨k, r, e, g1, g2, g3, g4⟩ := ha.win
    refine ⟨⟨k, r, e, ⟨g1.hr, g1.he, g1.re, g1.hm, g1.bs, g1.cont, g1.sent, g1.ph, g1.io, g1.n⟩, g2, g3, rfl⟩, ha.fr1, ha.fr0, ha.w4, ?_⟩
    have hf : Flds st x := ha.flds
    unfold Flds at *
    rw [hf]; rfl
  · exact h.elim
theorem bytes_ext {a b : ByteArray} (hs : a.size = b.size) (h : ∀ j, j < a.size → a.get! j = b.get! j) : a = b := by
  apply ByteArray.ext
  apply Array.ext
  · exact hs
  · intro i h1 h2
    have h1' : i < a.size := h1
    have := h i h1'
    have e1 : a.get! i = a.data[i] := by show a.data[i]! = _; rw [getElem!_pos _ i h1]
    have e2 : b.get! i = b.data[i] := by show b.data[i]! = _; rw [getElem!_pos _ i h2]
    rw [← e1, ← e2]; exact this
/-- The segment, where one has begun. -/
noncomputable def segG (A : Ad) (args : List SV) (c : Core (SY A)) : Tree (SV × Core (SY A)) :=
  match args with
  | [.st 0] => .req (c.st.b.isSome = true) (.leaf (.seg (seg A.src c.st), c))
  | _ => .fail
noncomputable def segS (A : Ad) : Smy (SY A) := ⟨97, #[], true, segG A⟩
theorem segS_ok (A : Ad) (hA : A.Ok) : (segS A).Ok := by
  refine ⟨fun args w => by kernel_rfl, lift_ok (fn_sound (RLaws A hA) (cfg0_ok A hA Tryd.f97.ntmps) Tryd.func97) (fun args st bx x Q ha h => ?_), ?_⟩
  · unfold segS segG at h
    simp only at h
    split at h
    · rw [segment_ev]
      obtain ⟨hb, hq⟩ := h
      obtain ⟨k, r, e, g1, g2, g3, g4⟩ := ha.win
      have hel := g1.e_le; have hre := g1.re; have hbs := g1.bs; have hn := g1.n; have hm := g1.hm
      have hke : k + e ≤ A.src.size := by rcases g1.ph with h | h <;> omega
      have hw : w64 (x.r - x.chw) = ((r - st.chw : Nat) : Int) := by rw [g1.hr, flds_chw ha.flds, w64_id (by omega) (by omega)]; omega
      obtain ⟨c, hc⟩ := Option.isSome_iff_exists.1 hb
      rw [hc] at g4
      obtain ⟨d, d1, d2, d3⟩ := g4
      have es : x.buf.extract x.b.toNat (w64 (x.r - x.chw)).toNat = seg A.src st := by
        unfold seg
        rw [hc, Option.getD_some, hw, d1, Int.toNat_natCast, Int.toNat_natCast]
        refine bytes_ext ?_ (fun j hj => ?_)
        · rw [extract_size _ _ _ (by omega), extract_size _ _ _ (by omega)]; omega
        · rw [extract_size _ _ _ (by omega)] at hj
          rw [extract_get _ _ _ _ (by omega) hj, extract_get _ _ _ _ (by omega) (by omega), g1.cont _ (by omega), d2, Nat.add_assoc]
      refine ⟨⟨by omega, by rw [hw, d1]; omega, by rw [hw, hbs]; omega⟩, st, ha, ?_⟩
      rw [es]
      exact hq
    · exact h.elim
  · intro args c Q hb h
    unfold segS segG at h
    simp only at h
    split at h
    · exact ⟨_, h.2, hb⟩
    · exact h.elim
/-! pos, error -/
noncomputable def sposG (A : Ad) (args : List SV) (c : Core (SY A)) : Tree (SV × Core (SY A)) :=
  match args with
  | [.st 0] => .leaf (.val (.tuple #[.int .u64 (u64 (1 + c.st.line0)), .int .u64 (u64 (1 + c.st.col0))]), c)
  | _ => .fail
theorem flds_pos {st : St} {x : Raw} (h : Flds st x) : x.line0 = st.line0 ∧ x.col0 = st.col0 := by unfold Flds at h; rw [h]; exact ⟨rfl, rfl⟩
noncomputable def sposS (A : Ad) : Smy (SY A) := ⟨70, #[], true, sposG A⟩
theorem sposS_ok (A : Ad) (hA : A.Ok) : (sposS A).Ok := by
  refine ⟨fun args w => by kernel_rfl, lift_ok (posS_ok A hA).ok (fun args st bx x Q ha h => ?_), ?_⟩
  · unfold sposS sposG at h
    unfold posS posG
    simp only at h ⊢
    split at h
    · refine ⟨st, ha, ?_⟩
      rw [(flds_pos ha.flds).1, (flds_pos ha.flds).2]
      exact h
    · exact h.elim
  · intro args c Q hb h
    unfold sposS sposG at h
    simp only at h
    split at h
    · exact ⟨_, h, hb⟩
    · exact h.elim
noncomputable def serrG (A : Ad) (args : List SV) (c : Core (SY A)) : Tree (SV × Core (SY A)) :=
  match args with
  | [.st 0, .val (.string m)] => .leaf (unit, ⟨error m c.st, c.bx⟩)
  | _ => .fail
theorem abs_note {A : Ad} {st : St} {x : Raw} (ha : Abs A st x) (n : Note) : Abs A { st with notes := st.notes ++ [n] } (addNote x n) := by
  obtain ⟨k, r, e, g1, g2, g3, g4⟩ := ha.win
  refine ⟨⟨k, r, e, ⟨g1.hr, g1.he, g1.re, g1.hm, g1.bs, g1.cont, g1.sent, g1.ph, g1.io, g1.n⟩, g2, g3, g4⟩, ha.fr1, ha.fr0, ha.w4, ?_⟩
  have hf : Flds st x := ha.flds
  unfold Flds addNote at *
  rw [hf]
noncomputable def serrS (A : Ad) : Smy (SY A) := ⟨92, #[], true, serrG A⟩
theorem serrS_ok (A : Ad) (hA : A.Ok) : (serrS A).Ok := by
  refine ⟨fun args w => by kernel_rfl, lift_ok (errS_ok A hA).ok (fun args st bx x Q ha h => ?_), ?_⟩
  · unfold serrS serrG at h
    unfold errS errG
    simp only at h ⊢
    split at h
    · refine ⟨_, abs_note ha _, ?_⟩
      simp only [(flds_pos ha.flds).1, (flds_pos ha.flds).2]
      exact h
    · exact h.elim
  · intro args c Q hb h
    unfold serrS serrG at h
    simp only at h
    split at h
    · refine ⟨_, h, ?_⟩
      have : lim ≤ c.st.notes.length := hb
      show lim ≤ (c.st.notes ++ [_]).length
      rw [List.length_append]; omega
    · exact h.elim
/-- The teller of errors. -/
noncomputable def sehG (A : Ad) (args : List SV) (c : Core (SY A)) : Tree (SV × Core (SY A)) :=
  match args with
  | [.val (.int .u64 l), .val (.int .u64 k), .val (.string m)] => .leaf (unit, ⟨errAt l k m c.st, c.bx⟩)
  | _ => .fail
noncomputable def sehS (A : Ad) : Smy (SY A) := ⟨51, #[.pointer (some ⟨A.e, 0, none⟩)], false, sehG A⟩
theorem sehS_ok (A : Ad) (hA : A.Ok) : (sehS A).Ok := by
  refine ⟨fun args w => by kernel_rfl, lift_ok (errhS_ok A hA).ok (fun args st bx x Q ha h => ?_), ?_⟩
  · unfold sehS sehG at h
    unfold errhS errhG
    simp only at h ⊢
    split at h
    · exact ⟨_, abs_note ha _, h⟩
    · exact h.elim
  · intro args c Q hb h
    unfold sehS sehG at h
    simp only at h
    split at h
    · refine ⟨_, h, ?_⟩
      have : lim ≤ c.st.notes.length := hb
      show lim ≤ (c.st.notes ++ [_]).length
      rw [List.length_append]; omega
    · exact h.elim
end Sc
end Go.Proofs.YtogkcphobhhbdaaDoor

/- source.rewind over the plain state. -/
namespace Go.Proofs.YtogkcphobhhbdaaDoor
open Go Go.RowKit
namespace Sc
open Ev
set_option maxRecDepth 100000
noncomputable def nG (A : Ad) (args : List SV) (c : Core (RY A)) : Tree (SV × Core (RY A)) := evFn (nCfg2 A) Tryd.f71 args c
noncomputable def rnS (A : Ad) : Smy (RY A) := ⟨71, #[], true, nG A⟩
theorem rnS_ok (A : Ad) (hA : A.Ok) : (rnS A).Ok := ⟨fun args w => by kernel_rfl, next_ok A hA, next_mono A hA⟩
noncomputable def cfgW (A : Ad) (N : Nat) : Cfg (RY A) := ⟨N, [(71, rnS A)], [], [], [], [], 0⟩
theorem cfgW_ok (A : Ad) (hA : A.Ok) (N : Nat) : (cfgW A N).Ok where
  sums := fun p hp => by
    obtain rfl : p = (71, rnS A) := by simpa [cfgW] using hp
    exact ⟨rnS_ok A hA, rfl, rfl⟩
  still := fun p hp h => by cases h
  fns := fun p hp => by cases hp
  mths := fun p hp => by cases hp
noncomputable def rwBody : Code := bodyOf Tryd.f81
noncomputable def rwX (x : Raw) : Raw := { x with col0 := u64 (x.col0 - u64 (w64 (x.r - x.b))), r := x.b }
theorem rw_body : (Tryd.f81).body = some rwBody := by kernel_rfl
theorem rw_cut : hasCut 3 rwBody = true := by kernel_rfl
theorem rw_head (A : Ad) (x : Raw) (bx : List Value) : (evCode (cfgW A Tryd.f81.ntmps) (cutHead 3 rwBody) ⟨⟨x, bx⟩, [(0, .st 0)]⟩).bind (fun xe => .leaf (xe.1, pare [0] xe.2)) =
    .test (decide (x.b < 0)) .fail (.leaf (.normal, ⟨⟨rwX x, bx⟩, [(0, .st 0)]⟩)) := by kernel_rfl
noncomputable def cfgV (A : Ad) (g : List SV → Core (RY A) → Tree (SV × Core (RY A))) (N : Nat) : Cfg (RY A) := ⟨N, [(71, ⟨71, #[], true, g⟩)], [], [], [], [], 0⟩
theorem rw_tail (A : Ad) (g : List SV → Core (RY A) → Tree (SV × Core (RY A))) (x : Raw) (bx : List Value) : evCode (cfgV A g Tryd.f81.ntmps) (cutTail 3 rwBody) ⟨⟨x, bx⟩, [(0, .st 0)]⟩ =
    ((((g [.st 0] ⟨x, bx⟩).bind fun p => .leaf (p.1, p.2, true)).bind fun p => .leaf ⟨p.2.1, putT (some 33) p.1 (bif p.2.2 then clean [(32, .st 0), (0, .st 0)] else [(32, .st 0), (0, .st 0)])⟩).bind fun e' => .leaf (.normal, e')) := by kernel_rfl
theorem rw_at (A : Ad) (hA : A.Ok) : At (RY A) Tryd.f81.ntmps rwBody (fun p : Raw × List Value => ⟨⟨p.1, p.2⟩, [(0, .st 0)]⟩)
    (fun p => .test (decide (p.1.b < 0)) .fail ((nG A [.st 0] ⟨rwX p.1, p.2⟩).bind fun q => .leaf (.normal, ⟨q.2, []⟩))) := by
  refine At.cut (RLaws A hA) (cfgW_ok A hA Tryd.f81.ntmps) 3 rw_cut (F' := fun p : Raw × List Value => ⟨⟨p.1, p.2⟩, [(0, .st 0)]⟩) (gb := fun p => (nG A [.st 0] ⟨p.1, p.2⟩).bind fun q => .leaf (.normal, ⟨q.2, []⟩)) ?_ ?_
  · refine At.ev (RLaws A hA) (cfgW_ok A hA Tryd.f81.ntmps) (fun p Q h => ?_)
    have e : evCode (cfgW A Tryd.f81.ntmps) (cutTail 3 rwBody) ⟨⟨p.1, p.2⟩, [(0, .st 0)]⟩ = _ := rw_tail A (nG A) p.1 p.2
    rw [e]
    simp only [sat_bind] at h ⊢
    refine sat_mono h (fun q hq => ⟨⟨q.2, []⟩, ⟨rfl, fun i => .inl rfl⟩, hq⟩)
  · rintro p Q ⟨h1, h2⟩
    have key : ((evCode (cfgW A Tryd.f81.ntmps) (cutHead 3 rwBody) ⟨⟨p.1, p.2⟩, [(0, .st 0)]⟩).bind (fun xe => .leaf (xe.1, pare [0] xe.2))).sat (fun xe => xe.1 = .normal ∧ xe.2 = ⟨⟨rwX p.1, p.2⟩, [(0, .st 0)]⟩ ∧ ((nG A [.st 0] ⟨rwX p.1, p.2⟩).bind fun q => .leaf (.normal, ⟨q.2, []⟩)).sat Q) := by
      rw [rw_head]
      exact ⟨fun h => (h1 h).elim, fun h => ⟨rfl, rfl, h2 h⟩⟩
    rw [sat_bind] at key
    refine sat_mono key ?_
    rintro ⟨ex, e⟩ ⟨k1, k2, k3⟩
    simp only at k1 k2 ⊢
    subst k1
    exact ⟨(rwX p.1, p.2), by rw [← k2]; exact lax_pare _ _, k3⟩
/-- rewind, where a segment has begun. -/
noncomputable def rewS (A : Ad) : Smy (SY A) := ⟨81, #[], true, onSt A (fun st => st.b.isSome = true) (rewind A.src)⟩
theorem rewind_len (src : ByteArray) (st : St) : st.notes.length ≤ (rewind src st).notes.length := nextch_len src { st with p := st.b.getD 0, col0 := u64 (st.col0 - u64 ((st.p : Int) - (st.b.getD 0 : Nat))) }
noncomputable def rewR (A : Ad) (args : List SV) (c : Core (RY A)) : Tree (SV × Core (RY A)) :=
  match args with
  | [.st 0] => .test (decide (c.st.b < 0)) .fail ((nG A [.st 0] ⟨rwX c.st, c.bx⟩).bind fun q => .leaf (unit, q.2))
  | _ => .fail
theorem rewR_ok (A : Ad) (hA : A.Ok) : SumOk (RY A) 81 #[] true (rewR A) := by
  refine At.fn (Y := RY A) Tryd.func81 rw_body (N := Tryd.f81.ntmps) rfl (π := Raw × List Value) (arg := fun _ => [.st 0]) (core := fun p => ⟨p.1, p.2⟩) (fun _ => by decide) (rw_at A hA) (fun args c Q h => ?_)
  unfold rewR at h
  split at h
  · refine ⟨(c.st, c.bx), rfl, rfl, h.1, fun h0 => ?_⟩
    have h1 := h.2 h0
    rw [sat_bind] at h1 ⊢
    exact h1
  · exact h.elim
theorem rewS_ok (A : Ad) (hA : A.Ok) : (rewS A).Ok := by
  refine ⟨fun args w => by kernel_rfl, lift_ok (rewR_ok A hA) (fun args st bx x Q ha h => ?_), onSt_mono (A := A) (P := fun st => st.b.isSome = true) (f := rewind A.src) (rewind_len A.src)⟩
  unfold rewS onSt at h
  simp only at h
  split at h
  · obtain ⟨hb, hq⟩ := h
    obtain ⟨k, r, e, g1, g2, g3, g4⟩ := ha.win
    have hel := g1.e_le; have hre := g1.re
    obtain ⟨c, hc⟩ := Option.isSome_iff_exists.1 hb
    have g4' := g4
    rw [hc] at g4'
    obtain ⟨d, d1, d2, d3⟩ := g4'
    have hf : Flds st x := ha.flds
    refine ⟨fun h0 => ?_, fun _ => ?_⟩
    · have : x.b < 0 := of_decide_eq_true h0
      omega
    · rw [sat_bind]
      have ew : w64 (x.r - x.b) = (st.p : Int) - (st.b.getD 0 : Nat) := by
        rw [g1.hr, d1, w64_id (by omega) (by omega), hc, Option.getD_some]; omega
      have ha0 : Abs0 A { st with p := st.b.getD 0, col0 := u64 (st.col0 - u64 ((st.p : Int) - (st.b.getD 0 : Nat))) } (rwX x) := by
        refine ⟨⟨k, d, e, ⟨d1, g1.he, by omega, g1.hm, g1.bs, g1.cont, g1.sent, g1.ph, g1.io, g1.n⟩, by show st.b.getD 0 = _; rw [hc]; exact d2, ?_⟩, ?_, ha.fr0, ha.w4, ?_⟩
        · show BAt st.b x.b k (st.b.getD 0)
          rw [hc, Option.getD_some]
          exact ⟨d, d1, d2, Nat.le_refl _⟩
        · intro h
          obtain ⟨f1, f2⟩ := ha.fr1 h
          refine ⟨?_, f2⟩
          show st.b.getD 0 = 0
          rw [hc, Option.getD_some]; omega
        · have hc0 := (flds_pos ha.flds).2
          unfold Flds at *
          unfold rwX
          rw [ew, hc0]
          rw [hf]
      refine sat_mono (next_sat A hA (nextP_abs (K := fun x' bx' => Abs A (rewind A.src st) x' ∧ bx' = bx) ha0 (fun x' ha' => ⟨ha', rfl⟩))) ?_
      rintro ⟨sv, c'⟩ ⟨h1, h2, h3⟩
      simp only at h1 h2 h3
      subst h3
      exact ⟨_, h2, hq⟩
  · exact h.elim
end Sc
end Go.Proofs.YtogkcphobhhbdaaDoor

/- The tables of words: tokStrFast, hash, keywordOf walked. -/
namespace Go.Proofs.YtogkcphobhhbdaaDoor
open Go Go.RowKit Go.Lib
namespace Sc
set_option maxRecDepth 100000
def tokNames : ByteArray := ⟨#[69,79,70,110,97,109,101,108,105,116,101,114,97,108,111,112,111,112,61,111,112,111,112,61,58,61,60,45,42,40,91,123,41,93,125,44,59,58,46,46,46,46,98,114,101,97,107,99,97,115,101,99,104,97,110,99,111,110,115,116,99,111,110,116,105,110,117,101,100,101,102,97,117,108,116,100,101,102,101,114,101,108,115,101,102,97,108,108,116,104,114,111,117,103,104,102,111,114,102,117,110,99,103,111,103,111,116,111,105,102,105,109,112,111,114,116,105,110,116,101,114,102,97,99,101,109,97,112,112,97,99,107,97,103,101,114,97,110,103,101,114,101,116,117,114,110,115,101,108,101,99,116,115,116,114,117,99,116,115,119,105,116,99,104,116,121,112,101,118,97,114]⟩
def tokIx (i : Nat) : Nat := [0, 3, 7, 14, 16, 19, 23, 24, 26, 28, 29, 30, 31, 32, 33, 34, 35, 36, 37, 38, 39, 42, 47, 51, 55, 60, 68, 75, 80, 84, 95, 98, 102, 104, 108, 110, 116, 125, 128, 135, 140, 146, 152, 158, 164, 168, 171, 171].getD i 0
/-- The word of token t (from 1 on). -/
def tokWord (t : Nat) : ByteArray := tokNames.extract (tokIx (t - 1)) (tokIx t)
theorem below_drewN1 {w : World} (n : Nat) : Below w.heap.size w (w.drewN n) := by
  have h : Below w.heap.size w w := Below.refl _ _
  exact ⟨h.os, h.tape, h.output, h.size, h.block⟩
theorem tokStr_22 (w : World) (c1 : w.cell? ⟨1, 21, none⟩ = some (.int .u8 42)) (c2 : w.cell? ⟨1, 22, none⟩ = some (.int .u8 47)) :
    Calls Tryd.prog 100 #[.int .u64 22] w fun e w' => e = .returned (.string (tokWord 22)) ∧ Below w.heap.size w w' := by
  go_enter Tryd.func100, Tryd.ntmps100
  go_wp2_with fail
  go_quiet (fail)
  go_wp2_with fail
  go_ret
  exact ⟨rfl, below_drewN1 _⟩
theorem tokStr_23 (w : World) (c1 : w.cell? ⟨1, 22, none⟩ = some (.int .u8 47)) (c2 : w.cell? ⟨1, 23, none⟩ = some (.int .u8 51)) :
    Calls Tryd.prog 100 #[.int .u64 23] w fun e w' => e = .returned (.string (tokWord 23)) ∧ Below w.heap.size w w' := by
  go_enter Tryd.func100, Tryd.ntmps100
  go_wp2_with fail
  go_quiet (fail)
  go_wp2_with fail
  go_ret
  exact ⟨rfl, below_drewN1 _⟩
theorem tokStr_24 (w : World) (c1 : w.cell? ⟨1, 23, none⟩ = some (.int .u8 51)) (c2 : w.cell? ⟨1, 24, none⟩ = some (.int .u8 55)) :
    Calls Tryd.prog 100 #[.int .u64 24] w fun e w' => e = .returned (.string (tokWord 24)) ∧ Below w.heap.size w w' := by
  go_enter Tryd.func100, Tryd.ntmps100
  go_wp2_with fail
  go_quiet (fail)
  go_wp2_with fail
  go_ret
  exact ⟨rfl, below_drewN1 _⟩
theorem tokStr_25 (w : World) (c1 : w.cell? ⟨1, 24, none⟩ = some (.int .u8 55)) (c2 : w.cell? ⟨1, 25, none⟩ = some (.int .u8 60)) :
    Calls Tryd.prog 100 #[.int .u64 25] w fun e w' => e = .returned (.string (tokWord 25)) ∧ Below w.heap.size w w' := by
  go_enter Tryd.func100, Tryd.ntmps100
  go_wp2_with fail
  go_quiet (fail)
  go_wp2_with fail
  go_ret
  exact ⟨rfl, below_drewN1 _⟩
theorem tokStr_26 (w : World) (c1 : w.cell? ⟨1, 25, none⟩ = some (.int .u8 60)) (c2 : w.cell? ⟨1, 26, none⟩ = some (.int .u8 68)) :
    Calls Tryd.prog 100 #[.int .u64 26] w fun e w' => e = .returned (.string (tokWord 26)) ∧ Below w.heap.size w w' := by
  go_enter Tryd.func100, Tryd.ntmps100
  go_wp2_with fail
  go_quiet (fail)
  go_wp2_with fail
  go_ret
  exact ⟨rfl, below_drewN1 _⟩
theorem tokStr_27 (w : World) (c1 : w.cell? ⟨1, 26, none⟩ = some (.int .u8 68)) (c2 : w.cell? ⟨1, 27, none⟩ = some (.int .u8 75)) :
    Calls Tryd.prog 100 #[.int .u64 27] w fun e w' => e = .returned (.string (tokWord 27)) ∧ Below w.heap.size w w' := by
  go_enter Tryd.func100, Tryd.ntmps100
  go_wp2_with fail
  go_quiet (fail)
  go_wp2_with fail
  go_ret
  exact ⟨rfl, below_drewN1 _⟩
theorem tokStr_28 (w : World) (c1 : w.cell? ⟨1, 27, none⟩ = some (.int .u8 75)) (c2 : w.cell? ⟨1, 28, none⟩ = some (.int .u8 80)) :
    Calls Tryd.prog 100 #[.int .u64 28] w fun e w' => e = .returned (.string (tokWord 28)) ∧ Below w.heap.size w w' := by
  go_enter Tryd.func100, Tryd.ntmps100
  go_wp2_with fail
  go_quiet (fail)
  go_wp2_with fail
  go_ret
  exact ⟨rfl, below_drewN1 _⟩
theorem tokStr_29 (w : World) (c1 : w.cell? ⟨1, 28, none⟩ = some (.int .u8 80)) (c2 : w.cell? ⟨1, 29, none⟩ = some (.int .u8 84)) :
    Calls Tryd.prog 100 #[.int .u64 29] w fun e w' => e = .returned (.string (tokWord 29)) ∧ Below w.heap.size w w' := by
  go_enter Tryd.func100, Tryd.ntmps100
  go_wp2_with fail
  go_quiet (fail)
  go_wp2_with fail
  go_ret
  exact ⟨rfl, below_drewN1 _⟩
theorem tokStr_30 (w : World) (c1 : w.cell? ⟨1, 29, none⟩ = some (.int .u8 84)) (c2 : w.cell? ⟨1, 30, none⟩ = some (.int .u8 95)) :
    Calls Tryd.prog 100 #[.int .u64 30] w fun e w' => e = .returned (.string (tokWord 30)) ∧ Below w.heap.size w w' := by
  go_enter Tryd.func100, Tryd.ntmps100
  go_wp2_with fail
  go_quiet (fail)
  go_wp2_with fail
  go_ret
  exact ⟨rfl, below_drewN1 _⟩
theorem tokStr_31 (w : World) (c1 : w.cell? ⟨1, 30, none⟩ = some (.int .u8 95)) (c2 : w.cell? ⟨1, 31, none⟩ = some (.int .u8 98)) :
    Calls Tryd.prog 100 #[.int .u64 31] w fun e w' => e = .returned (.string (tokWord 31)) ∧ Below w.heap.size w w' := by
  go_enter Tryd.func100, Tryd.ntmps100
  go_wp2_with fail
  go_quiet (fail)
  go_wp2_with fail
  go_ret
  exact ⟨rfl, below_drewN1 _⟩
theorem tokStr_32 (w : World) (c1 : w.cell? ⟨1, 31, none⟩ = some (.int .u8 98)) (c2 : w.cell? ⟨1, 32, none⟩ = some (.int .u8 102)) :
    Calls Tryd.prog 100 #[.int .u64 32] w fun e w' => e = .returned (.string (tokWord 32)) ∧ Below w.heap.size w w' := by
  go_enter Tryd.func100, Tryd.ntmps100
  go_wp2_with fail
  go_quiet (fail)
  go_wp2_with fail
  go_ret
  exact ⟨rfl, below_drewN1 _⟩
theorem tokStr_33 (w : World) (c1 : w.cell? ⟨1, 32, none⟩ = some (.int .u8 102)) (c2 : w.cell? ⟨1, 33, none⟩ = some (.int .u8 104)) :
    Calls Tryd.prog 100 #[.int .u64 33] w fun e w' => e = .returned (.string (tokWord 33)) ∧ Below w.heap.size w w' := by
  go_enter Tryd.func100, Tryd.ntmps100
  go_wp2_with fail
  go_quiet (fail)
  go_wp2_with fail
  go_ret
  exact ⟨rfl, below_drewN1 _⟩
theorem tokStr_34 (w : World) (c1 : w.cell? ⟨1, 33, none⟩ = some (.int .u8 104)) (c2 : w.cell? ⟨1, 34, none⟩ = some (.int .u8 108)) :
    Calls Tryd.prog 100 #[.int .u64 34] w fun e w' => e = .returned (.string (tokWord 34)) ∧ Below w.heap.size w w' := by
  go_enter Tryd.func100, Tryd.ntmps100
  go_wp2_with fail
  go_quiet (fail)
  go_wp2_with fail
  go_ret
  exact ⟨rfl, below_drewN1 _⟩
theorem tokStr_35 (w : World) (c1 : w.cell? ⟨1, 34, none⟩ = some (.int .u8 108)) (c2 : w.cell? ⟨1, 35, none⟩ = some (.int .u8 110)) :
    Calls Tryd.prog 100 #[.int .u64 35] w fun e w' => e = .returned (.string (tokWord 35)) ∧ Below w.heap.size w w' := by
  go_enter Tryd.func100, Tryd.ntmps100
  go_wp2_with fail
  go_quiet (fail)
  go_wp2_with fail
  go_ret
  exact ⟨rfl, below_drewN1 _⟩
theorem tokStr_36 (w : World) (c1 : w.cell? ⟨1, 35, none⟩ = some (.int .u8 110)) (c2 : w.cell? ⟨1, 36, none⟩ = some (.int .u8 116)) :
    Calls Tryd.prog 100 #[.int .u64 36] w fun e w' => e = .returned (.string (tokWord 36)) ∧ Below w.heap.size w w' := by
  go_enter Tryd.func100, Tryd.ntmps100
  go_wp2_with fail
  go_quiet (fail)
  go_wp2_with fail
  go_ret
  exact ⟨rfl, below_drewN1 _⟩
theorem tokStr_37 (w : World) (c1 : w.cell? ⟨1, 36, none⟩ = some (.int .u8 116)) (c2 : w.cell? ⟨1, 37, none⟩ = some (.int .u8 125)) :
    Calls Tryd.prog 100 #[.int .u64 37] w fun e w' => e = .returned (.string (tokWord 37)) ∧ Below w.heap.size w w' := by
  go_enter Tryd.func100, Tryd.ntmps100
  go_wp2_with fail
  go_quiet (fail)
  go_wp2_with fail
  go_ret
  exact ⟨rfl, below_drewN1 _⟩
theorem tokStr_38 (w : World) (c1 : w.cell? ⟨1, 37, none⟩ = some (.int .u8 125)) (c2 : w.cell? ⟨1, 38, none⟩ = some (.int .u8 128)) :
    Calls Tryd.prog 100 #[.int .u64 38] w fun e w' => e = .returned (.string (tokWord 38)) ∧ Below w.heap.size w w' := by
  go_enter Tryd.func100, Tryd.ntmps100
  go_wp2_with fail
  go_quiet (fail)
  go_wp2_with fail
  go_ret
  exact ⟨rfl, below_drewN1 _⟩
theorem tokStr_39 (w : World) (c1 : w.cell? ⟨1, 38, none⟩ = some (.int .u8 128)) (c2 : w.cell? ⟨1, 39, none⟩ = some (.int .u8 135)) :
    Calls Tryd.prog 100 #[.int .u64 39] w fun e w' => e = .returned (.string (tokWord 39)) ∧ Below w.heap.size w w' := by
  go_enter Tryd.func100, Tryd.ntmps100
  go_wp2_with fail
  go_quiet (fail)
  go_wp2_with fail
  go_ret
  exact ⟨rfl, below_drewN1 _⟩
theorem tokStr_40 (w : World) (c1 : w.cell? ⟨1, 39, none⟩ = some (.int .u8 135)) (c2 : w.cell? ⟨1, 40, none⟩ = some (.int .u8 140)) :
    Calls Tryd.prog 100 #[.int .u64 40] w fun e w' => e = .returned (.string (tokWord 40)) ∧ Below w.heap.size w w' := by
  go_enter Tryd.func100, Tryd.ntmps100
  go_wp2_with fail
  go_quiet (fail)
  go_wp2_with fail
  go_ret
  exact ⟨rfl, below_drewN1 _⟩
theorem tokStr_41 (w : World) (c1 : w.cell? ⟨1, 40, none⟩ = some (.int .u8 140)) (c2 : w.cell? ⟨1, 41, none⟩ = some (.int .u8 146)) :
    Calls Tryd.prog 100 #[.int .u64 41] w fun e w' => e = .returned (.string (tokWord 41)) ∧ Below w.heap.size w w' := by
  go_enter Tryd.func100, Tryd.ntmps100
  go_wp2_with fail
  go_quiet (fail)
  go_wp2_with fail
  go_ret
  exact ⟨rfl, below_drewN1 _⟩
theorem tokStr_42 (w : World) (c1 : w.cell? ⟨1, 41, none⟩ = some (.int .u8 146)) (c2 : w.cell? ⟨1, 42, none⟩ = some (.int .u8 152)) :
    Calls Tryd.prog 100 #[.int .u64 42] w fun e w' => e = .returned (.string (tokWord 42)) ∧ Below w.heap.size w w' := by
  go_enter Tryd.func100, Tryd.ntmps100
  go_wp2_with fail
  go_quiet (fail)
  go_wp2_with fail
  go_ret
  exact ⟨rfl, below_drewN1 _⟩
theorem tokStr_43 (w : World) (c1 : w.cell? ⟨1, 42, none⟩ = some (.int .u8 152)) (c2 : w.cell? ⟨1, 43, none⟩ = some (.int .u8 158)) :
    Calls Tryd.prog 100 #[.int .u64 43] w fun e w' => e = .returned (.string (tokWord 43)) ∧ Below w.heap.size w w' := by
  go_enter Tryd.func100, Tryd.ntmps100
  go_wp2_with fail
  go_quiet (fail)
  go_wp2_with fail
  go_ret
  exact ⟨rfl, below_drewN1 _⟩
theorem tokStr_44 (w : World) (c1 : w.cell? ⟨1, 43, none⟩ = some (.int .u8 158)) (c2 : w.cell? ⟨1, 44, none⟩ = some (.int .u8 164)) :
    Calls Tryd.prog 100 #[.int .u64 44] w fun e w' => e = .returned (.string (tokWord 44)) ∧ Below w.heap.size w w' := by
  go_enter Tryd.func100, Tryd.ntmps100
  go_wp2_with fail
  go_quiet (fail)
  go_wp2_with fail
  go_ret
  exact ⟨rfl, below_drewN1 _⟩
theorem tokStr_45 (w : World) (c1 : w.cell? ⟨1, 44, none⟩ = some (.int .u8 164)) (c2 : w.cell? ⟨1, 45, none⟩ = some (.int .u8 168)) :
    Calls Tryd.prog 100 #[.int .u64 45] w fun e w' => e = .returned (.string (tokWord 45)) ∧ Below w.heap.size w w' := by
  go_enter Tryd.func100, Tryd.ntmps100
  go_wp2_with fail
  go_quiet (fail)
  go_wp2_with fail
  go_ret
  exact ⟨rfl, below_drewN1 _⟩
theorem tokStr_46 (w : World) (c1 : w.cell? ⟨1, 45, none⟩ = some (.int .u8 168)) (c2 : w.cell? ⟨1, 46, none⟩ = some (.int .u8 171)) :
    Calls Tryd.prog 100 #[.int .u64 46] w fun e w' => e = .returned (.string (tokWord 46)) ∧ Below w.heap.size w w' := by
  go_enter Tryd.func100, Tryd.ntmps100
  go_wp2_with fail
  go_quiet (fail)
  go_wp2_with fail
  go_ret
  exact ⟨rfl, below_drewN1 _⟩
theorem tokStr_walk (t : Nat) (h0 : 22 ≤ t) (h1 : t ≤ 46) (w : World) (hT : ∀ i, i < 48 → w.cell? ⟨1, i, none⟩ = some (.int .u8 (tokIx i : Nat))) :
    Calls Tryd.prog 100 #[.int .u64 (t : Int)] w fun e w' => e = .returned (.string (tokWord t)) ∧ Below w.heap.size w w' := by
  rcases (by omega : t = 22 ∨ t = 23 ∨ t = 24 ∨ t = 25 ∨ t = 26 ∨ t = 27 ∨ t = 28 ∨ t = 29 ∨ t = 30 ∨ t = 31 ∨ t = 32 ∨ t = 33 ∨ t = 34 ∨ t = 35 ∨ t = 36 ∨ t = 37 ∨ t = 38 ∨ t = 39 ∨ t = 40 ∨ t = 41 ∨ t = 42 ∨ t = 43 ∨ t = 44 ∨ t = 45 ∨ t = 46) with rfl | rfl | rfl | rfl | rfl | rfl | rfl | rfl | rfl | rfl | rfl | rfl | rfl | rfl | rfl | rfl | rfl | rfl | rfl | rfl | rfl | rfl | rfl | rfl | rfl
  · exact tokStr_22 w (hT 21 (by decide)) (hT 22 (by decide))
  · exact tokStr_23 w (hT 22 (by decide)) (hT 23 (by decide))
  · exact tokStr_24 w (hT 23 (by decide)) (hT 24 (by decide))
  · exact tokStr_25 w (hT 24 (by decide)) (hT 25 (by decide))
  · exact tokStr_26 w (hT 25 (by decide)) (hT 26 (by decide))
  · exact tokStr_27 w (hT 26 (by decide)) (hT 27 (by decide))
  · exact tokStr_28 w (hT 27 (by decide)) (hT 28 (by decide))
  · exact tokStr_29 w (hT 28 (by decide)) (hT 29 (by decide))
  · exact tokStr_30 w (hT 29 (by decide)) (hT 30 (by decide))
  · exact tokStr_31 w (hT 30 (by decide)) (hT 31 (by decide))
  · exact tokStr_32 w (hT 31 (by decide)) (hT 32 (by decide))
  · exact tokStr_33 w (hT 32 (by decide)) (hT 33 (by decide))
  · exact tokStr_34 w (hT 33 (by decide)) (hT 34 (by decide))
  · exact tokStr_35 w (hT 34 (by decide)) (hT 35 (by decide))
  · exact tokStr_36 w (hT 35 (by decide)) (hT 36 (by decide))
  · exact tokStr_37 w (hT 36 (by decide)) (hT 37 (by decide))
  · exact tokStr_38 w (hT 37 (by decide)) (hT 38 (by decide))
  · exact tokStr_39 w (hT 38 (by decide)) (hT 39 (by decide))
  · exact tokStr_40 w (hT 39 (by decide)) (hT 40 (by decide))
  · exact tokStr_41 w (hT 40 (by decide)) (hT 41 (by decide))
  · exact tokStr_42 w (hT 41 (by decide)) (hT 42 (by decide))
  · exact tokStr_43 w (hT 42 (by decide)) (hT 43 (by decide))
  · exact tokStr_44 w (hT 43 (by decide)) (hT 44 (by decide))
  · exact tokStr_45 w (hT 44 (by decide)) (hT 45 (by decide))
  · exact tokStr_46 w (hT 45 (by decide)) (hT 46 (by decide))
/-- hash, of at least two bytes. -/
def hashF (bs : ByteArray) : Int :=
  bits BinOp.and IntKind.u64 (IntKind.u64.wrap (bits BinOp.xor IntKind.u64 (IntKind.u64.wrap (IntKind.u64.wrap ↑(bs.get! 0).toNat * 16)) (IntKind.u64.wrap ↑(bs.get! 1).toNat) + IntKind.u64.wrap ↑bs.size)) 63
theorem hash_walk (bs : ByteArray) (b o cap : Nat) (w : World) (h2 : 2 ≤ bs.size) (c0 : w.cell? ⟨b, o, none⟩ = some (.int .u8 (bs.get! 0).toNat)) (c1 : w.cell? ⟨b, o + 1, none⟩ = some (.int .u8 (bs.get! 1).toNat)) :
    Calls Tryd.prog 99 #[.slice (some ⟨b, o, none⟩) bs.size cap] w fun e w' => e = .returned (.int .u64 (hashF bs)) ∧ Below w.heap.size w w' := by
  have l0 : (0 : Int) < (bs.size : Int) := by omega
  have l1 : (1 : Int) < (bs.size : Int) := by omega
  go_enter Tryd.func99, Tryd.ntmps99
  go_wp2_with fail
  go_quiet (fail)
  go_wp2_with fail
  go_ret
  exact ⟨rfl, below_drewN1 _⟩
theorem ix_below {w w' : World} {n : Nat} (hn : 1 < w.heap.size) (hB : Below w.heap.size w w') (hT : ∀ i, i < 48 → w.cell? ⟨1, i, none⟩ = some (.int .u8 (tokIx i : Nat))) : ∀ i, i < 48 → w'.cell? ⟨1, i, none⟩ = some (.int .u8 (tokIx i : Nat)) :=
  fun i hi => by rw [hB.cell (p := ⟨1, i, none⟩) hn]; exact hT i hi
/-- The first token from k on, below 47, of this hash; 0 if there is none. -/
def kwFrom (h : Int) : Nat → Nat → Nat
  | 0, _ => 0
  | n + 1, k => if hashF (tokWord k) = h then k else kwFrom h n (k + 1)
/-- keywordOf. -/
def kwOf (h : Int) : Nat := kwFrom h 25 22
theorem tokWord_two : ∀ k, 22 ≤ k → k ≤ 46 → 2 ≤ (tokWord k).size := by
  intro k h1 h2
  rcases (by omega : k = 22 ∨ k = 23 ∨ k = 24 ∨ k = 25 ∨ k = 26 ∨ k = 27 ∨ k = 28 ∨ k = 29 ∨ k = 30 ∨ k = 31 ∨ k = 32 ∨ k = 33 ∨ k = 34 ∨ k = 35 ∨ k = 36 ∨ k = 37 ∨ k = 38 ∨ k = 39 ∨ k = 40 ∨ k = 41 ∨ k = 42 ∨ k = 43 ∨ k = 44 ∨ k = 45 ∨ k = 46) with rfl | rfl | rfl | rfl | rfl | rfl | rfl | rfl | rfl | rfl | rfl | rfl | rfl | rfl | rfl | rfl | rfl | rfl | rfl | rfl | rfl | rfl | rfl | rfl | rfl <;> decide
theorem bytesWorld_below (w : World) (e : TypeId) (s : ByteArray) : Below w.heap.size w (Lib.bytesWorld w e s) := by
  have h := Lib.bytesWorld_at_old w e s
  refine ⟨rfl, rfl, rfl, ?_, fun k hk => h k hk⟩
  have := Lib.bytesWorld_at_new w e s
  have := (Array.getElem?_eq_some_iff.1 this).1
  omega
theorem bytesWorld_cell (w : World) (e : TypeId) (s : ByteArray) (j : Nat) (hj : j < s.size) : (Lib.bytesWorld w e s).cell? ⟨w.heap.size, j, none⟩ = some (.int .u8 (s.get! j).toNat) := by
  rw [Lib.bytesWorld_cell w e s j hj]
  have hj' : j < s.data.size := hj
  show some (Value.int .u8 ((s.data.toList.getD j 0).toNat : Int)) = some (Value.int .u8 ((s.data[j]!).toNat : Int))
  rw [getElem!_pos s.data j hj', List.getD_eq_getElem?_getD, Array.getElem?_toList, Array.getElem?_eq_getElem hj']
  rfl
theorem below_step {B : Nat} {w w1 w2 : World} (h : Below B w w1) (hB : B ≤ w1.heap.size) (h2 : Below w1.heap.size w1 w2) : Below B w w2 :=
  h.trans ⟨h2.os, h2.tape, h2.output, h2.size, fun k hk => h2.block k (Nat.lt_of_lt_of_le hk hB)⟩
theorem keyword_walk (h : Int) (w : World) (hT : ∀ i, i < 48 → w.cell? ⟨1, i, none⟩ = some (.int .u8 (tokIx i : Nat))) :
    Calls Tryd.prog 98 #[.int .u64 h] w fun e w' => e = .returned (.int .u64 (kwOf h : Nat)) ∧ Below w.heap.size w w' := by
  have hlt : 1 < w.heap.size := World.block_lt_of_cell? w _ (hT 0 (by decide))
  have HT := Lib.hid hT
  clear hT
  go_enter Tryd.func98, Tryd.ntmps98
  go_wp2_with fail
  go_loopw [3] (fun v wr => ∃ k : Nat, 22 ≤ k ∧ k ≤ 47 ∧ v = .int .u64 (k : Int) ∧ Below w.heap.size w wr ∧ Hid (kwOf h = kwFrom h (47 - k) k)) (fun v _ => 47 - (intOf v).toNat)
  case atStart => exact ⟨22, by omega, by omega, rfl, Below.refl _ _, Lib.hid rfl⟩
  case round =>
    obtain ⟨k, h1, h2, rfl, hB, HK⟩ := hrel
    have HB := Lib.hid hB
    clear hB
    by_cases hk : k ≤ 46
    · have hk' : decide ((k : Int) ≤ 46) = true := by simp; omega
      go_wp2_with fail
      refine (tokStr_walk k h1 hk wr (ix_below (n := 0) hlt HB.out HT.out)).mono ?_
      rintro e w1 ⟨rfl, hB1⟩
      have HB1 := Lib.hid hB1
      clear hB1
      go_wp2_with fail
      have hcv := Lib.run_convert_string_bytes (P := Tryd.prog) w1 9 45 5 (tokWord k) (u := .string) Tryd.underlying9 Tryd.underlying45 Tryd.underlying5
      rw [hcv]
      clear hcv
      have hB2 := bytesWorld_below w1 5 (tokWord k)
      have hC2 := bytesWorld_cell w1 5 (tokWord k)
      generalize Lib.bytesWorld w1 5 (tokWord k) = w2 at *
      have HB2 := Lib.hid hB2
      have HC2 := Lib.hid hC2
      clear hB2 hC2
      go_wp2_with fail
      have h2w := tokWord_two k h1 hk
      refine (hash_walk (tokWord k) w1.heap.size 0 _ w2 h2w (by have := HC2.out 0 (by omega); exact this) (by have := HC2.out 1 (by omega); exact this)).mono ?_
      rintro e w3 ⟨rfl, hB3⟩
      have HB3 := Lib.hid hB3
      clear hB3
      have hb03 : Below w.heap.size w w3 := by
        have s0 := HB.out.size
        have s1 := HB1.out.size
        have s2 := HB2.out.size
        exact below_step (below_step (below_step HB.out s0 HB1.out) (by omega) HB2.out) (by omega) HB3.out
      have HB03 := Lib.hid hb03
      clear hb03
      have hkf : kwFrom h (47 - k) k = if hashF (tokWord k) = h then k else kwFrom h (47 - (k + 1)) (k + 1) := by
        rw [show 47 - k = (47 - (k + 1)) + 1 from by omega]; rfl
      have HKF := Lib.hid hkf
      clear hkf
      by_cases he : hashF (tokWord k) = h
      · have he' : (hashF (tokWord k) == h) = true := by simp [he]
        have HE := Lib.hid he
        clear he
        go_wp2_with fail
        go_ret
        refine ⟨?_, HB03.out⟩
        rw [HK.out, HKF.out, if_pos HE.out]
        rfl
      · have he' : (hashF (tokWord k) == h) = false := by simp [he]
        have HE := Lib.hid he
        clear he
        go_wp2_with fail
        have hw : IntKind.u64.wrap ((k : Int) + 1) = ((k + 1 : Nat) : Int) := by
          simp only [IntKind.wrap, IntKind.bits, IntKind.signed]; simp; omega
        go_roundw
        case rel => exact ⟨k + 1, by omega, by omega, (by first | rfl | rw [hw]), HB03.out, Lib.hid (by rw [HK.out, HKF.out, if_neg HE.out])⟩
        case measure => simp [intOf]; omega
    · have hk' : decide ((k : Int) ≤ 46) = false := by simp; omega
      go_wp2_with fail
      go_ret
      have e47 : k = 47 := by omega
      subst e47
      exact ⟨by rw [HK.out]; rfl, HB.out⟩
end Sc
end Go.Proofs.YtogkcphobhhbdaaDoor

/- Small functions of characters, walked. -/
namespace Go.Proofs.YtogkcphobhhbdaaDoor
open Go Go.RowKit Go.Lib
namespace Sc
set_option maxRecDepth 100000
def lowerF (c : Int) : Int := bits BinOp.or IntKind.i32 32 c
def isLetterF (c : Int) : Bool := (decide (97 ≤ lowerF c) && decide (lowerF c ≤ 122)) || (c == 95)
def isDecimalF (c : Int) : Bool := decide (48 ≤ c) && decide (c ≤ 57)
def isHexF (c : Int) : Bool := (decide (48 ≤ c) && decide (c ≤ 57)) || (decide (97 ≤ lowerF c) && decide (lowerF c ≤ 102))
def baseNameF (b : Int) : ByteArray :=
  if b = 2 then ⟨#[98,105,110,97,114,121]⟩ else if b = 8 then ⟨#[111,99,116,97,108]⟩ else if b = 10 then ⟨#[100,101,99,105,109,97,108]⟩ else ⟨#[104,101,120,97,100,101,99,105,109,97,108]⟩
theorem lower_walk (c : Int) (w : World) : Calls Tryd.prog 96 #[.int .i32 c] w fun e w' => e = .returned (.int .i32 (lowerF c)) ∧ w' = w := by
  go_enter Tryd.func96, Tryd.ntmps96
  go_wp2_with fail
  go_ret
  exact ⟨rfl, rfl⟩
theorem isDecimal_walk (c : Int) (w : World) : Calls Tryd.prog 80 #[.int .i32 c] w fun e w' => e = .returned (.bool (isDecimalF c)) ∧ w' = w := by
  cases h1 : decide (48 ≤ c) <;> cases h2 : decide (c ≤ 57)
  all_goals
    have hf : isDecimalF c = (decide (48 ≤ c) && decide (c ≤ 57)) := rfl
    rw [h1, h2] at hf
    have Hf := Lib.hid hf
    clear hf
    go_enter Tryd.func80, Tryd.ntmps80
    go_wp2_with fail
    go_ret
    exact ⟨by rw [Hf.out]; rfl, rfl⟩
theorem isLetter_walk (c : Int) (w : World) : Calls Tryd.prog 73 #[.int .i32 c] w fun e w' => e = .returned (.bool (isLetterF c)) ∧ w' = w := by
  generalize hl : lowerF c = l
  have hf : isLetterF c = ((decide (97 ≤ l) && decide (l ≤ 122)) || (c == 95)) := by rw [← hl]; rfl
  have Hl := Lib.hid hl
  clear hl
  cases h1 : decide (97 ≤ l) <;> cases h2 : decide (l ≤ 122) <;> cases h3 : (c == 95)
  all_goals
    rw [h1, h2, h3] at hf
    have Hf := Lib.hid hf
    clear hf
    go_enter Tryd.func73, Tryd.ntmps73
    go_wp2_with fail
    try (refine (lower_walk c w).mono ?_; rintro e w1 ⟨rfl, rfl⟩; rw [Hl.out]; go_wp2_with fail)
    try (refine (lower_walk c w1).mono ?_; rintro e w2 ⟨rfl, rfl⟩; rw [Hl.out]; go_wp2_with fail)
    go_ret
    exact ⟨by rw [Hf.out]; rfl, rfl⟩
theorem isHex_walk (c : Int) (w : World) : Calls Tryd.prog 113 #[.int .i32 c] w fun e w' => e = .returned (.bool (isHexF c)) ∧ w' = w := by
  generalize hl : lowerF c = l
  have hf : isHexF c = ((decide (48 ≤ c) && decide (c ≤ 57)) || (decide (97 ≤ l) && decide (l ≤ 102))) := by rw [← hl]; rfl
  have Hl := Lib.hid hl
  clear hl
  cases h1 : decide (48 ≤ c) <;> cases h2 : decide (c ≤ 57) <;> cases h3 : decide (97 ≤ l) <;> cases h4 : decide (l ≤ 102)
  all_goals
    rw [h1, h2, h3, h4] at hf
    have Hf := Lib.hid hf
    clear hf
    go_enter Tryd.func113, Tryd.ntmps113
    go_wp2_with fail
    try (refine (lower_walk c w).mono ?_; rintro e w1 ⟨rfl, rfl⟩; rw [Hl.out]; go_wp2_with fail)
    try (refine (lower_walk c w1).mono ?_; rintro e w2 ⟨rfl, rfl⟩; rw [Hl.out]; go_wp2_with fail)
    go_ret
    exact ⟨by rw [Hf.out]; rfl, rfl⟩
theorem baseName_walk (b : Int) (hb : b = 2 ∨ b = 8 ∨ b = 10 ∨ b = 16) (w : World) : Calls Tryd.prog 103 #[.int .i64 b] w fun e w' => e = .returned (.string (baseNameF b)) ∧ w' = w := by
  rcases hb with rfl | rfl | rfl | rfl
  all_goals
    go_enter Tryd.func103, Tryd.ntmps103
    go_wp2_with fail
    go_ret
    exact ⟨rfl, rfl⟩
end Sc
end Go.Proofs.YtogkcphobhhbdaaDoor

/-
  DERIVED: THE SHELF's CONTRACTS AT THIS DUMP, IN PLAIN WORDS (tools/lay-plain.mjs out of 'TrydShelf.lean', which tools/lay-shelf.mjs wrote): THE SAME DECLARATIONS UNDER THE SAME NAMES: 'import', 'namespace', 'open', 'def', 'theorem' AND NOTHING ELSE: no command of the shelf's: FOR A HAND-IN. Each laying: the table of numbers ('.._ren') and one theorem, a field a fact of the dump's own or the kernel's comparison; each contract: ONE APPLICATION.
-/
namespace Go.Proofs
open Go.Shelf
def Tryd.lays200_ren : Go.Shelf.Ren := ⟨fun | 200 => 58 | 261 => 59 | 311 => 86 | 312 => 87 | n => n, fun | 21 => 21 | 4 => 4 | 51 => 44 | 5 => 5 | 119 => 115 | 0 => 0 | 141 => 94 | 196 => 119 | 193 => 116 | 3 => 3 | 198 => 122 | 49 => 120 | 194 => 117 | 201 => 125 | 226 => 149 | 46 => 55 | 227 => 150 | n => n, fun | 7 => 4 | 8 => 5 | n => n⟩
theorem Tryd.lays200 : Go.Proofs.Lays.n200 Tryd.prog Tryd.lays200_ren := {
  mixed := by kernel_rfl
  f200 := Tryd.func58.trans (congrArg some (by kernel_rfl))
  f261 := Tryd.func59.trans (congrArg some (by kernel_rfl))
  f311 := Tryd.func86.trans (congrArg some (by kernel_rfl))
  f312 := Tryd.func87.trans (congrArg some (by kernel_rfl))
  t0 := Tryd.underlying0
  a0 := Tryd.isAgg0
  z0 := Tryd.sizeOf0
  v0 := Tryd.zeroValue0
  t3 := Tryd.underlying3
  a3 := Tryd.isAgg3
  z3 := Tryd.sizeOf3
  v3 := Tryd.zeroValue3
  t4 := Tryd.underlying4
  a4 := Tryd.isAgg4
  z4 := Tryd.sizeOf4
  v4 := Tryd.zeroValue4
  t5 := Tryd.underlying5
  a5 := Tryd.isAgg5
  z5 := Tryd.sizeOf5
  v5 := Tryd.zeroValue5
  t21 := Tryd.underlying21
  a21 := Tryd.isAgg21
  z21 := Tryd.sizeOf21
  v21 := Tryd.zeroValue21
  t46 := Tryd.underlying55
  a46 := Tryd.isAgg55
  z46 := Tryd.sizeOf55
  v46 := Tryd.zeroValue55
  t49 := Tryd.underlying120
  a49 := Tryd.isAgg120
  z49 := Tryd.sizeOf120
  v49 := Tryd.zeroValue120
  t51 := Tryd.underlying44
  a51 := Tryd.isAgg44
  z51 := Tryd.sizeOf44
  v51 := Tryd.zeroValue44
  t119 := Tryd.underlying115
  a119 := Tryd.isAgg115
  z119 := Tryd.sizeOf115
  t141 := Tryd.underlying94
  a141 := Tryd.isAgg94
  z141 := Tryd.sizeOf94
  v141 := Tryd.zeroValue94
  t193 := Tryd.underlying116
  a193 := Tryd.isAgg116
  z193 := Tryd.sizeOf116
  v193 := Tryd.zeroValue116
  t194 := Tryd.underlying117
  a194 := Tryd.isAgg117
  z194 := Tryd.sizeOf117
  v194 := Tryd.zeroValue117
  t196 := Tryd.underlying119
  a196 := Tryd.isAgg119
  z196 := Tryd.sizeOf119
  v196 := Tryd.zeroValue119
  t198 := Tryd.underlying122
  a198 := Tryd.isAgg122
  z198 := Tryd.sizeOf122
  v198 := Tryd.zeroValue122
  t201 := Tryd.underlying125
  a201 := Tryd.isAgg125
  z201 := Tryd.sizeOf125
  v201 := Tryd.zeroValue125
  t226 := Tryd.underlying149
  a226 := Tryd.isAgg149
  z226 := Tryd.sizeOf149
  v226 := Tryd.zeroValue149
  t227 := Tryd.underlying150
  a227 := Tryd.isAgg150
  z227 := Tryd.sizeOf150
  v227 := Tryd.zeroValue150
  g7 := by kernel_rfl
  g8 := by kernel_rfl }
open Go.RowKit Go.Lib in
/-- unicode.IsLetter(r) AT EVERY int32, the tables as their initialisers lay them: 'Lib.isLetterU r'. (LAID: no walk: one application.) -/
theorem Tryd.unicode_IsLetter_all (r : Int) (w : World) (hlo : -2147483648 ≤ r) (hhi : r ≤ 2147483647) (htab : Lib.TabIs Tryd.prog w "unicode.properties" .u8 Lib.propertiesTab) (hV : RVar 5 letterT w) :
    Calls Tryd.prog 58 #[.int .i32 r] w fun e w' => e = .returned (.bool (isLetterU r)) ∧ Below w.heap.size w w' := Any.unicode_IsLetter_all Tryd.lays200 (by kernel_rfl) r w hlo hhi htab hV
def Tryd.lays198_ren : Go.Shelf.Ren := ⟨fun | 198 => 38 | 261 => 59 | 311 => 86 | 312 => 87 | n => n, fun | 21 => 21 | 4 => 4 | 141 => 94 | 0 => 0 | 196 => 119 | 193 => 116 | 3 => 3 | 51 => 44 | 198 => 122 | 49 => 120 | 194 => 117 | 201 => 125 | 226 => 149 | 46 => 55 | 227 => 150 | n => n, fun | 5 => 0 | n => n⟩
theorem Tryd.lays198 : Go.Proofs.Lays.n198 Tryd.prog Tryd.lays198_ren := {
  mixed := by kernel_rfl
  f198 := Tryd.func38.trans (congrArg some (by kernel_rfl))
  f261 := Tryd.func59.trans (congrArg some (by kernel_rfl))
  f311 := Tryd.func86.trans (congrArg some (by kernel_rfl))
  f312 := Tryd.func87.trans (congrArg some (by kernel_rfl))
  t0 := Tryd.underlying0
  a0 := Tryd.isAgg0
  z0 := Tryd.sizeOf0
  v0 := Tryd.zeroValue0
  t3 := Tryd.underlying3
  a3 := Tryd.isAgg3
  z3 := Tryd.sizeOf3
  v3 := Tryd.zeroValue3
  t4 := Tryd.underlying4
  a4 := Tryd.isAgg4
  z4 := Tryd.sizeOf4
  v4 := Tryd.zeroValue4
  t21 := Tryd.underlying21
  a21 := Tryd.isAgg21
  z21 := Tryd.sizeOf21
  v21 := Tryd.zeroValue21
  t46 := Tryd.underlying55
  a46 := Tryd.isAgg55
  z46 := Tryd.sizeOf55
  v46 := Tryd.zeroValue55
  t49 := Tryd.underlying120
  a49 := Tryd.isAgg120
  z49 := Tryd.sizeOf120
  v49 := Tryd.zeroValue120
  t51 := Tryd.underlying44
  a51 := Tryd.isAgg44
  z51 := Tryd.sizeOf44
  v51 := Tryd.zeroValue44
  t141 := Tryd.underlying94
  a141 := Tryd.isAgg94
  z141 := Tryd.sizeOf94
  v141 := Tryd.zeroValue94
  t193 := Tryd.underlying116
  a193 := Tryd.isAgg116
  z193 := Tryd.sizeOf116
  v193 := Tryd.zeroValue116
  t194 := Tryd.underlying117
  a194 := Tryd.isAgg117
  z194 := Tryd.sizeOf117
  v194 := Tryd.zeroValue117
  t196 := Tryd.underlying119
  a196 := Tryd.isAgg119
  z196 := Tryd.sizeOf119
  v196 := Tryd.zeroValue119
  t198 := Tryd.underlying122
  a198 := Tryd.isAgg122
  z198 := Tryd.sizeOf122
  v198 := Tryd.zeroValue122
  t201 := Tryd.underlying125
  a201 := Tryd.isAgg125
  z201 := Tryd.sizeOf125
  v201 := Tryd.zeroValue125
  t226 := Tryd.underlying149
  a226 := Tryd.isAgg149
  z226 := Tryd.sizeOf149
  v226 := Tryd.zeroValue149
  t227 := Tryd.underlying150
  a227 := Tryd.isAgg150
  z227 := Tryd.sizeOf150
  v227 := Tryd.zeroValue150
  g5 := by kernel_rfl }
open Go.RowKit Go.Lib in
/-- unicode.IsDigit(r) AT EVERY int32: 'Lib.isDigitU r'. (LAID: no walk: one application.) -/
theorem Tryd.unicode_IsDigit_all (r : Int) (w : World) (hlo : -2147483648 ≤ r) (hhi : r ≤ 2147483647) (hV : RVar 0 digitT w) :
    Calls Tryd.prog 38 #[.int .i32 r] w fun e w' => e = .returned (.bool (isDigitU r)) ∧ Below w.heap.size w w' := Any.unicode_IsDigit_all Tryd.lays198 r w hlo hhi hV
end Go.Proofs

/- What the scanner's functions call, over the plain state. -/
namespace Go.Proofs.YtogkcphobhhbdaaDoor
open Go Go.RowKit Go.Lib
namespace Sc
open Ev
set_option maxRecDepth 100000
theorem below_ok {A : Ad} (hA : A.Ok) {f : FuncId} {g : List SV → Core (SY A) → Tree (SV × Core (SY A))}
    (h : ∀ (args : List SV) (c : Core (SY A)) (bl : List Nat) (w : World) (vals : List Value) (Q : SV × Core (SY A) → Prop), Rels (SY A) bl w args vals → SInv A c.st w → (g args c).sat Q →
      ∃ sv v, Q (sv, c) ∧ RelV (SY A) sv v ∧ Calls Tryd.prog f vals.toArray w fun e w' => e = .returned v ∧ Below w.heap.size w w') : SumOk (SY A) f #[] false g := by
  intro args c bl w vals Q hargs hc hs
  obtain ⟨sv, v, hq, hrel, hcall⟩ := h args c bl w vals Q hargs hc.inv hs
  rw [Array.append_empty]
  refine hcall.mono ?_
  rintro e w' ⟨rfl, hB⟩
  obtain ⟨x, hx, ha⟩ := hc.inv
  have hinv : SInv A c.st w' := ⟨x, hx.kept (kept_below hx hB), ha⟩
  refine .inl ⟨sv, c, v, bl, hq, rfl, hrel.rel _ _, invC_below (A := A) (Y := SY A) hc hinv hB, (fr_below hB bl).ext, fun _ o => ?_⟩
  have hlt := ((SLaws A hA).lt hc.inv).2
  simp only [World.cell?, hB.block _ hlt]
/-- One number in, one plain value out. -/
noncomputable def num0 (A : Ad) (k : IntKind) (r : Int → Value) (args : List SV) (c : Core (SY A)) : Tree (SV × Core (SY A)) :=
  match args with
  | [.val (.int k' n)] => bif decide (k' = k) then .leaf (.val (r n), c) else .fail
  | _ => .fail
theorem num0_ok {A : Ad} (hA : A.Ok) {f : FuncId} {k : IntKind} {r : Int → Value}
    (h : ∀ (n : Int) (st : St) (w : World), SInv A st w → Calls Tryd.prog f #[.int k n] w fun e w' => e = .returned (r n) ∧ Below w.heap.size w w') : SumOk (SY A) f #[] false (num0 A k r) := by
  refine below_ok hA (fun args c bl w vals Q hargs hinv hs => ?_)
  unfold num0 at hs
  split at hs
  · rename_i k' n
    by_cases hk : k' = k
    · subst hk
      simp only [decide_true, cond_true] at hs
      cases hargs with
      | cons h1 hr =>
        cases hr
        have e : _ = Value.int k' n := h1
        subst e
        exact ⟨_, _, hs, rfl, h _ c.st w hinv⟩
    · simp only [hk, decide_false, cond_false, Tree.sat] at hs
  · exact hs.elim
theorem num0_mono {A : Ad} {k : IntKind} {r : Int → Value} : GMono (Y := SY A) (num0 A k r) := by
  intro args c Q hb h
  unfold num0 at h
  split at h
  · rename_i k' n
    by_cases hk : k' = k
    · simp only [hk, decide_true, cond_true] at h; exact ⟨_, h, hb⟩
    · simp only [hk, decide_false, cond_false, Tree.sat] at h
  · exact h.elim
theorem num0_quiet {A : Ad} {k : IntKind} {r : Int → Value} (args : List SV) (c : Core (SY A)) : (num0 A k r args c).quiet c := by
  unfold num0
  split
  · rename_i k' n
    by_cases hk : k' = k
    · simp only [hk, decide_true, cond_true]; rfl
    · simp only [hk, decide_false, cond_false]; trivial
  · trivial
/-- The same, where P. -/
noncomputable def num1 (A : Ad) (k : IntKind) (P : Int → Prop) (r : Int → Value) (args : List SV) (c : Core (SY A)) : Tree (SV × Core (SY A)) :=
  match args with
  | [.val (.int k' n)] => bif decide (k' = k) then .req (P n) (.leaf (.val (r n), c)) else .fail
  | _ => .fail
theorem num1_ok {A : Ad} (hA : A.Ok) {f : FuncId} {k : IntKind} {P : Int → Prop} {r : Int → Value}
    (h : ∀ (n : Int) (st : St) (w : World), SInv A st w → P n → Calls Tryd.prog f #[.int k n] w fun e w' => e = .returned (r n) ∧ Below w.heap.size w w') : SumOk (SY A) f #[] false (num1 A k P r) := by
  refine below_ok hA (fun args c bl w vals Q hargs hinv hs => ?_)
  unfold num1 at hs
  split at hs
  · rename_i k' n
    by_cases hk : k' = k
    · subst hk
      simp only [decide_true, cond_true] at hs
      cases hargs with
      | cons h1 hr =>
        cases hr
        have e : _ = Value.int k' n := h1
        subst e
        exact ⟨_, _, hs.2, rfl, h _ c.st w hinv hs.1⟩
    · simp only [hk, decide_false, cond_false, Tree.sat] at hs
  · exact hs.elim
theorem num1_mono {A : Ad} {k : IntKind} {P : Int → Prop} {r : Int → Value} : GMono (Y := SY A) (num1 A k P r) := by
  intro args c Q hb h
  unfold num1 at h
  split at h
  · rename_i k' n
    by_cases hk : k' = k
    · simp only [hk, decide_true, cond_true] at h; exact ⟨_, h.2, hb⟩
    · simp only [hk, decide_false, cond_false, Tree.sat] at h
  · exact h.elim
theorem num1_quiet {A : Ad} {k : IntKind} {P : Int → Prop} {r : Int → Value} (args : List SV) (c : Core (SY A)) : (num1 A k P r args c).quiet c := by
  unfold num1
  split
  · rename_i k' n
    by_cases hk : k' = k
    · simp only [hk, decide_true, cond_true]; rfl
    · simp only [hk, decide_false, cond_false]; trivial
  · trivial
noncomputable def letS (A : Ad) : Smy (SY A) := ⟨73, #[], false, num0 A .i32 fun c => .bool (isLetterF c)⟩
theorem letS_ok (A : Ad) (hA : A.Ok) : (letS A).Ok := ⟨fun args w => by kernel_rfl, num0_ok hA (fun c st w _ => (isLetter_walk c w).mono fun e w' ⟨h1, h2⟩ => ⟨h1, h2 ▸ Below.refl _ _⟩), num0_mono⟩
noncomputable def decS0 (A : Ad) : Smy (SY A) := ⟨80, #[], false, num0 A .i32 fun c => .bool (isDecimalF c)⟩
theorem decS0_ok (A : Ad) (hA : A.Ok) : (decS0 A).Ok := ⟨fun args w => by kernel_rfl, num0_ok hA (fun c st w _ => (isDecimal_walk c w).mono fun e w' ⟨h1, h2⟩ => ⟨h1, h2 ▸ Below.refl _ _⟩), num0_mono⟩
noncomputable def hexS (A : Ad) : Smy (SY A) := ⟨113, #[], false, num0 A .i32 fun c => .bool (isHexF c)⟩
theorem hexS_ok (A : Ad) (hA : A.Ok) : (hexS A).Ok := ⟨fun args w => by kernel_rfl, num0_ok hA (fun c st w _ => (isHex_walk c w).mono fun e w' ⟨h1, h2⟩ => ⟨h1, h2 ▸ Below.refl _ _⟩), num0_mono⟩
noncomputable def lowS (A : Ad) : Smy (SY A) := ⟨96, #[], false, num0 A .i32 fun c => .int .i32 (lowerF c)⟩
theorem lowS_ok (A : Ad) (hA : A.Ok) : (lowS A).Ok := ⟨fun args w => by kernel_rfl, num0_ok hA (fun c st w _ => (lower_walk c w).mono fun e w' ⟨h1, h2⟩ => ⟨h1, h2 ▸ Below.refl _ _⟩), num0_mono⟩
noncomputable def basS (A : Ad) : Smy (SY A) := ⟨103, #[], false, num1 A .i64 (fun b => b = 2 ∨ b = 8 ∨ b = 10 ∨ b = 16) fun b => .string (baseNameF b)⟩
theorem basS_ok (A : Ad) (hA : A.Ok) : (basS A).Ok := ⟨fun args w => by kernel_rfl, num1_ok hA (fun b st w _ hb => (baseName_walk b hb w).mono fun e w' ⟨h1, h2⟩ => ⟨h1, h2 ▸ Below.refl _ _⟩), num1_mono⟩
theorem tix_at {A : Ad} {st : St} {w : World} (h : SInv A st w) : ∀ i, i < 48 → w.cell? ⟨1, i, none⟩ = some (.int .u8 (tokIx i : Nat)) := by
  obtain ⟨x, hx, _⟩ := h
  intro i hi
  have hs := hx.ok.glob.size
  rw [hx.below.cell (by show 1 < A.w0.heap.size; omega)]
  rw [hx.ok.glob.tix i hi]
  unfold tokIx
  congr 1
  have key : ∀ i, i < 48 → (([0, 3, 7, 14, 16, 19, 23, 24, 26, 28, 29, 30, 31, 32, 33, 34, 35, 36, 37, 38, 39, 42, 47, 51, 55, 60, 68, 75, 80, 84, 95, 98, 102, 104, 108, 110, 116, 125, 128, 135, 140, 146, 152, 158, 164, 168, 171, 171] : List Int).getD i 0) = ((([0, 3, 7, 14, 16, 19, 23, 24, 26, 28, 29, 30, 31, 32, 33, 34, 35, 36, 37, 38, 39, 42, 47, 51, 55, 60, 68, 75, 80, 84, 95, 98, 102, 104, 108, 110, 116, 125, 128, 135, 140, 146, 152, 158, 164, 168, 171, 171] : List Nat).getD i 0 : Nat) : Int) := by decide
  rw [key i hi]
noncomputable def tksS (A : Ad) : Smy (SY A) := ⟨100, #[], false, num1 A .u64 (fun t => 22 ≤ t ∧ t ≤ 46) fun t => .string (tokWord t.toNat)⟩
theorem tksS_ok (A : Ad) (hA : A.Ok) : (tksS A).Ok := ⟨fun args w => by kernel_rfl, num1_ok hA (fun t st w hi hp => by
  obtain ⟨n, rfl⟩ := Int.eq_ofNat_of_zero_le (by omega : 0 ≤ t)
  show Calls Tryd.prog 100 #[.int .u64 (n : Int)] w fun e w' => e = .returned (.string (tokWord ((n : Int)).toNat)) ∧ Below w.heap.size w w'
  rw [Int.toNat_natCast]
  exact tokStr_walk n (by omega) (by omega) w (tix_at hi)), num1_mono⟩
noncomputable def kwS (A : Ad) : Smy (SY A) := ⟨98, #[], false, num0 A .u64 fun h => .int .u64 (kwOf h : Nat)⟩
theorem kwS_ok (A : Ad) (hA : A.Ok) : (kwS A).Ok := ⟨fun args w => by kernel_rfl, num0_ok hA (fun h st w hi => keyword_walk h w (tix_at hi)), num0_mono⟩
noncomputable def hashG (A : Ad) (args : List SV) (c : Core (SY A)) : Tree (SV × Core (SY A)) :=
  match args with
  | [.seg bs] => .req (2 ≤ bs.size) (.leaf (.val (.int .u64 (hashF bs)), c))
  | _ => .fail
noncomputable def hashS (A : Ad) : Smy (SY A) := ⟨99, #[], false, hashG A⟩
theorem hashS_ok (A : Ad) (hA : A.Ok) : (hashS A).Ok := by
  refine ⟨fun args w => by kernel_rfl, below_ok hA (fun args c bl w vals Q hargs hinv hs => ?_), ?_⟩
  · unfold hashS hashG at hs
    simp only at hs
    split at hs
    · cases hargs with
      | cons h1 hr =>
        cases hr
        obtain ⟨o, cap, hcap, rfl, hcell⟩ := h1
        refine ⟨_, _, hs.2, rfl, hash_walk _ A.buf o cap w hs.1 ?_ (hcell 1 (by have := hs.1; omega))⟩
        exact hcell 0 (by have := hs.1; omega)
    · exact hs.elim
  · intro args c Q hb h
    unfold hashS hashG at h
    simp only at h
    split at h
    · exact ⟨_, h.2, hb⟩
    · exact h.elim
theorem hash_quiet {A : Ad} (args : List SV) (c : Core (SY A)) : (hashG A args c).quiet c := by
  unfold hashG
  split
  · rfl
  · trivial
theorem glob_below {A : Ad} {st : St} {w : World} (h : SInv A st w) : A.Ok ∧ Below A.w0.heap.size A.w0 w := by
  obtain ⟨x, hx, _⟩ := h
  exact ⟨hx.ok, hx.below⟩
noncomputable def ulS (A : Ad) : Smy (SY A) := ⟨58, #[], false, num1 A .i32 (fun c => -2147483648 ≤ c ∧ c ≤ 2147483647) fun c => .bool (isLetterU c)⟩
theorem ulS_ok (A : Ad) (hA : A.Ok) : (ulS A).Ok := ⟨fun args w => by kernel_rfl, num1_ok hA (fun c st w hi hp => by
  obtain ⟨ho, hB⟩ := glob_below hi
  exact Tryd.unicode_IsLetter_all c w hp.1 hp.2 (Go.Proofs.TabIs_below (by kernel_rfl : Tryd.prog.globalNamed "unicode.properties" = some 4) ho.glob.props hB) (Go.Proofs.RVar_below ho.glob.letter hB)), num1_mono⟩
noncomputable def udS (A : Ad) : Smy (SY A) := ⟨38, #[], false, num1 A .i32 (fun c => -2147483648 ≤ c ∧ c ≤ 2147483647) fun c => .bool (isDigitU c)⟩
theorem udS_ok (A : Ad) (hA : A.Ok) : (udS A).Ok := ⟨fun args w => by kernel_rfl, num1_ok hA (fun c st w hi hp => by
  obtain ⟨ho, hB⟩ := glob_below hi
  exact Tryd.unicode_IsDigit_all c w hp.1 hp.2 (Go.Proofs.RVar_below ho.glob.digit hB)), num1_mono⟩
end Sc
end Go.Proofs.YtogkcphobhhbdaaDoor

/- The scanner's functions over the plain state: what they may call. -/
namespace Go.Proofs.YtogkcphobhhbdaaDoor
open Go Go.RowKit Go.Lib
namespace Sc
open Ev
set_option maxRecDepth 100000
noncomputable def sSums (A : Ad) : List (Nat × Smy (SY A)) :=
  [(71, nextS A), (72, startS A), (69, stopS A), (97, segS A), (70, sposS A), (92, serrS A), (81, rewS A),
   (73, letS A), (80, decS0 A), (113, hexS A), (96, lowS A), (103, basS A), (100, tksS A), (98, kwS A), (99, hashS A), (58, ulS A), (38, udS A)]
def sStill : List Nat := [73, 80, 113, 96, 103, 100, 98, 99, 58, 38]
/-- Summaries that may be called. -/
structure SumsOk (A : Ad) (l : List (Nat × Smy (SY A))) : Prop where
  all : ∀ p ∈ l, p.2.Ok ∧ p.2.f = p.1 ∧ p.2.caps = #[] ∧ (memB sStill p.1 = true → p.2.dirty = false ∧ ∀ args c, (p.2.g args c).quiet c)
theorem SumsOk.cons {A : Ad} {l : List (Nat × Smy (SY A))} (h : SumsOk A l) {n : Nat} {s : Smy (SY A)} (h1 : s.Ok) (h2 : s.f = n) (h3 : s.caps = #[]) (h4 : memB sStill n = true → s.dirty = false ∧ ∀ args c, (s.g args c).quiet c) : SumsOk A ((n, s) :: l) :=
  ⟨fun p hp => by
    rcases List.mem_cons.1 hp with rfl | hp
    · exact ⟨h1, h2, h3, h4⟩
    · exact h.all p hp⟩
theorem SumsOk.nil {A : Ad} : SumsOk A [] := ⟨fun p hp => by cases hp⟩
theorem sSums_ok (A : Ad) (hA : A.Ok) : SumsOk A (sSums A) := by
  refine SumsOk.cons ?_ (nextS_ok A hA) rfl rfl (fun h => by cases h)
  refine SumsOk.cons ?_ (startS_ok A hA) rfl rfl (fun h => by cases h)
  refine SumsOk.cons ?_ (stopS_ok A hA) rfl rfl (fun h => by cases h)
  refine SumsOk.cons ?_ (segS_ok A hA) rfl rfl (fun h => by cases h)
  refine SumsOk.cons ?_ (sposS_ok A hA) rfl rfl (fun h => by cases h)
  refine SumsOk.cons ?_ (serrS_ok A hA) rfl rfl (fun h => by cases h)
  refine SumsOk.cons ?_ (rewS_ok A hA) rfl rfl (fun h => by cases h)
  refine SumsOk.cons ?_ (letS_ok A hA) rfl rfl (fun _ => ⟨rfl, num0_quiet⟩)
  refine SumsOk.cons ?_ (decS0_ok A hA) rfl rfl (fun _ => ⟨rfl, num0_quiet⟩)
  refine SumsOk.cons ?_ (hexS_ok A hA) rfl rfl (fun _ => ⟨rfl, num0_quiet⟩)
  refine SumsOk.cons ?_ (lowS_ok A hA) rfl rfl (fun _ => ⟨rfl, num0_quiet⟩)
  refine SumsOk.cons ?_ (basS_ok A hA) rfl rfl (fun _ => ⟨rfl, num1_quiet⟩)
  refine SumsOk.cons ?_ (tksS_ok A hA) rfl rfl (fun _ => ⟨rfl, num1_quiet⟩)
  refine SumsOk.cons ?_ (kwS_ok A hA) rfl rfl (fun _ => ⟨rfl, num0_quiet⟩)
  refine SumsOk.cons ?_ (hashS_ok A hA) rfl rfl (fun _ => ⟨rfl, hash_quiet⟩)
  refine SumsOk.cons ?_ (ulS_ok A hA) rfl rfl (fun _ => ⟨rfl, num1_quiet⟩)
  refine SumsOk.cons ?_ (udS_ok A hA) rfl rfl (fun _ => ⟨rfl, num1_quiet⟩)
  exact SumsOk.nil
noncomputable def cfgL (A : Ad) (l : List (Nat × Smy (SY A))) (N : Nat) (blk : List (Nat × (E (SY A) → Tree (Ex × E (SY A))))) (unroll : Nat) : Cfg (SY A) := ⟨N, l, [(0, sehS A)], blk, sStill, [], unroll⟩
theorem cfgL_ok (A : Ad) (hA : A.Ok) {l : List (Nat × Smy (SY A))} (hl : SumsOk A l) (N : Nat) (blk : List (Nat × (E (SY A) → Tree (Ex × E (SY A))))) (unroll : Nat) : (cfgL A l N blk unroll).Ok where
  sums := fun p hp => ⟨(hl.all p hp).1, (hl.all p hp).2.1, (hl.all p hp).2.2.1⟩
  still := fun p hp h => (hl.all p hp).2.2.2 h
  fns := fun p hp => by
    obtain rfl : p = (0, sehS A) := by simpa [cfgL] using hp
    exact ⟨sehS_ok A hA, rfl⟩
  mths := fun p hp => by cases hp
/-- The scanner in slot 0; these slots beside it. -/
def Es (A : Ad) (st : St) (bx : List Value) (tm : List (Nat × SV)) : E (SY A) := ⟨⟨st, bx⟩, tm⟩
end Sc
end Go.Proofs.YtogkcphobhhbdaaDoor

/- The scanner's functions over the plain state: errors, literals, lines. -/
namespace Go.Proofs.YtogkcphobhhbdaaDoor
open Go Go.RowKit Go.Lib
namespace Sc
open Ev
set_option maxRecDepth 100000
/-- A function of the scanner, out of its evaluation. -/
theorem ev_ok {A : Ad} (hA : A.Ok) {f : FuncId} {fn : Func} (hf : Tryd.prog.funcs[f]? = some fn) (he : ∀ args w, (callFunc f args).run Tryd.prog w = .ok (.enter f args) w) {l : List (Nat × Smy (SY A))} (hl : SumsOk A l)
    {G : List SV → Core (SY A) → Tree (SV × Core (SY A))} (h : ∀ args c (Q : SV × Core (SY A) → Prop), (G args c).sat Q → (evFn (cfgL A l fn.ntmps [] 0) fn args c).sat Q) : (Smy.mk f #[] true G : Smy (SY A)).Ok :=
  ⟨he, (fn_sound (SLaws A hA) (cfgL_ok A hA hl fn.ntmps [] 0) (Y := SY A) hf).refine h, (fn_mono (SLaws A hA) (cfgL_ok A hA hl fn.ntmps [] 0)).refine h⟩
theorem errorf_ev (A : Ad) (c : Core (SY A)) (m : ByteArray) (u : SV) : evFn (cfgL A (sSums A) Tryd.f84.ntmps [] 0) Tryd.f84 [.st 0, .val (.string m), u] c = .leaf (unit, ⟨error m c.st, c.bx⟩) := by kernel_rfl
noncomputable def erfG (A : Ad) (args : List SV) (c : Core (SY A)) : Tree (SV × Core (SY A)) :=
  match args with
  | [.st 0, .val (.string m), _] => .leaf (unit, ⟨error m c.st, c.bx⟩)
  | _ => .fail
noncomputable def erfS (A : Ad) : Smy (SY A) := ⟨84, #[], true, erfG A⟩
theorem erfS_ok (A : Ad) (hA : A.Ok) : (erfS A).Ok := ev_ok hA Tryd.func84 (fun args w => by kernel_rfl) (sSums_ok A hA) (fun args c Q h => by
  unfold erfG at h
  split at h
  · rw [errorf_ev]; exact h
  · exact h.elim)
def errorAtF (o : Int) (m : ByteArray) (st : St) : St := errAt st.line (u64 (st.col + u64 o)) m st
theorem errorAt_ev (A : Ad) (c : Core (SY A)) (o : Int) (m : ByteArray) (u : SV) : evFn (cfgL A (sSums A) Tryd.f105.ntmps [] 0) Tryd.f105 [.st 0, .val (.int .i64 o), .val (.string m), u] c = .leaf (unit, ⟨errorAtF o m c.st, c.bx⟩) := by kernel_rfl
noncomputable def eraG (A : Ad) (args : List SV) (c : Core (SY A)) : Tree (SV × Core (SY A)) :=
  match args with
  | [.st 0, .val (.int .i64 o), .val (.string m), _] => .leaf (unit, ⟨errorAtF o m c.st, c.bx⟩)
  | _ => .fail
noncomputable def eraS (A : Ad) : Smy (SY A) := ⟨105, #[], true, eraG A⟩
theorem eraS_ok (A : Ad) (hA : A.Ok) : (eraS A).Ok := ev_ok hA Tryd.func105 (fun args w => by kernel_rfl) (sSums_ok A hA) (fun args c Q h => by
  unfold eraG at h
  split at h
  · rw [errorAt_ev]; exact h
  · exact h.elim)
def setLitF (src : ByteArray) (k : Int) (ok : Bool) (st : St) : St := { st with nlsemi := true, tok := 3, lit := seg src st, bad := !ok, kind := k }
theorem setLit_ev (A : Ad) (c : Core (SY A)) (k : Int) (ok : Bool) : evFn (cfgL A (sSums A) Tryd.f104.ntmps [] 0) Tryd.f104 [.st 0, .val (.int .u8 k), .val (.bool ok)] c = .req (c.st.b.isSome = true) (.leaf (unit, ⟨setLitF A.src k ok c.st, c.bx⟩)) := by kernel_rfl
theorem setLit_evT (A : Ad) (c : Core (SY A)) (k : Int) : evFn (cfgL A (sSums A) Tryd.f104.ntmps [] 0) Tryd.f104 [.st 0, .val (.int .u8 k), .tt] c = .req (c.st.b.isSome = true) (.leaf (unit, ⟨setLitF A.src k true c.st, c.bx⟩)) := by kernel_rfl
theorem setLit_evF (A : Ad) (c : Core (SY A)) (k : Int) : evFn (cfgL A (sSums A) Tryd.f104.ntmps [] 0) Tryd.f104 [.st 0, .val (.int .u8 k), .ff] c = .req (c.st.b.isSome = true) (.leaf (unit, ⟨setLitF A.src k false c.st, c.bx⟩)) := by kernel_rfl
noncomputable def stlG (A : Ad) (args : List SV) (c : Core (SY A)) : Tree (SV × Core (SY A)) :=
  match args with
  | [.st 0, .val (.int .u8 k), .val (.bool ok)] => .req (c.st.b.isSome = true) (.leaf (unit, ⟨setLitF A.src k ok c.st, c.bx⟩))
  | [.st 0, .val (.int .u8 k), .tt] => .req (c.st.b.isSome = true) (.leaf (unit, ⟨setLitF A.src k true c.st, c.bx⟩))
  | [.st 0, .val (.int .u8 k), .ff] => .req (c.st.b.isSome = true) (.leaf (unit, ⟨setLitF A.src k false c.st, c.bx⟩))
  | _ => .fail
noncomputable def stlS (A : Ad) : Smy (SY A) := ⟨104, #[], true, stlG A⟩
theorem stlS_ok (A : Ad) (hA : A.Ok) : (stlS A).Ok := ev_ok hA Tryd.func104 (fun args w => by kernel_rfl) (sSums_ok A hA) (fun args c Q h => by
  unfold stlG at h
  split at h
  · rw [setLit_ev]; exact h
  · rw [setLit_evT]; exact h
  · rw [setLit_evF]; exact h
  · exact h.elim)
def commentF (m : ByteArray) (st : St) : St := errAt st.line st.col m st
theorem comment_ev (A : Ad) (c : Core (SY A)) (m : ByteArray) : evFn (cfgL A (sSums A) Tryd.f109.ntmps [] 0) Tryd.f109 [.st 0, .val (.string m)] c = .leaf (unit, ⟨commentF m c.st, c.bx⟩) := by kernel_rfl
noncomputable def comG (A : Ad) (args : List SV) (c : Core (SY A)) : Tree (SV × Core (SY A)) :=
  match args with
  | [.st 0, .val (.string m)] => .leaf (unit, ⟨commentF m c.st, c.bx⟩)
  | _ => .fail
noncomputable def comS (A : Ad) : Smy (SY A) := ⟨109, #[], true, comG A⟩
theorem comS_ok (A : Ad) (hA : A.Ok) : (comS A).Ok := ev_ok hA Tryd.func109 (fun args w => by kernel_rfl) (sSums_ok A hA) (fun args c Q h => by
  unfold comG at h
  split at h
  · rw [comment_ev]; exact h
  · exact h.elim)
/-! How far the reading goes -/
theorem readAt_on (src : ByteArray) (line : Int) : ∀ (f : Nat) (fresh : Bool) (p : Nat) (col : Int) (ns : List Note), p < src.size → p < (readAt src line (f + 1) fresh p col ns).p ∧ (readAt src line (f + 1) fresh p col ns).p ≤ src.size
  | 0, fresh, p, col, ns, h => by
    have := dec_pos src p
    have := dec_le src p h
    simp only [readAt]
    repeat' split
    all_goals first
      | (simp only; omega)
  | f + 1, fresh, p, col, ns, h => by
    have := dec_pos src p
    have := dec_le src p h
    have step : ∀ (q : Nat) (b : Bool) (col : Int) (ns : List Note), p < q → q ≤ src.size → p < (readAt src line (f + 1) b q col ns).p ∧ (readAt src line (f + 1) b q col ns).p ≤ src.size := fun q b col ns h1 h2 => by
      by_cases hq : q < src.size
      · have := readAt_on src line f b q col ns hq; omega
      · simp only [readAt, if_neg hq]; omega
    rw [readAt]
    repeat' split
    all_goals first
      | (refine step _ _ _ _ ?_ ?_ <;> omega)
      | (simp only; omega)
theorem readAt_end (src : ByteArray) (line : Int) (f : Nat) (fresh : Bool) (p : Nat) (col : Int) (ns : List Note) (h : ¬ p < src.size) : (readAt src line (f + 1) fresh p col ns) = ⟨p, col, -1, 0, ns⟩ := by
  simp only [readAt, if_neg h]
/-- What is left to read. -/
def left (src : ByteArray) (st : St) : Nat := 2 * (src.size - st.p) + (if st.ch = -1 then 0 else 1)
theorem nextch_left (src : ByteArray) (st : St) (hst : ¬ st.ch = -1) : left src (nextch src st) < left src st := by
  by_cases hp : st.p < src.size
  · have := readAt_on src (nlLine st) src.size st.fresh st.p (nlCol st) st.notes hp
    have h1 : (nextch src st).p = (readAt src (nlLine st) (src.size + 1) st.fresh st.p (nlCol st) st.notes).p := rfl
    unfold left
    rw [if_neg hst, h1]
    split <;> omega
  · have := readAt_end src (nlLine st) src.size st.fresh st.p (nlCol st) st.notes hp
    have h1 : (nextch src st).p = st.p := by show (readAt _ _ _ _ _ _ _).p = _; rw [this]
    have h2 : (nextch src st).ch = -1 := by show (readAt _ _ _ _ _ _ _).ch = _; rw [this]
    unfold left
    rw [if_neg hst, h1, h2]
    simp
/-- On while the character is such. -/
def skipN (src : ByteArray) (c : Int → Bool) : Nat → St → St
  | 0, st => st
  | n + 1, st => if c st.ch = true then skipN src c n (nextch src st) else st
def skip (src : ByteArray) (c : Int → Bool) (st : St) : St := skipN src c (left src st) st
theorem on_ne {c : Int → Bool} (hc : c (-1) = false) {x : Int} (h : c x = true) : ¬ x = -1 := fun e => by rw [e, hc] at h; cases h
theorem skipN_more (src : ByteArray) (c : Int → Bool) (hc : c (-1) = false) : ∀ (n m : Nat) (st : St), left src st ≤ n → n ≤ m → skipN src c n st = skipN src c m st
  | 0, m, st, h, _ => by
    cases m with
    | zero => rfl
    | succ m =>
      have : ¬ c st.ch = true := fun h1 => by
        have := on_ne hc h1
        unfold left at h
        rw [if_neg this] at h
        omega
      simp only [skipN, if_neg this]
  | n + 1, 0, st, _, h => by omega
  | n + 1, m + 1, st, h, hm => by
    simp only [skipN]
    split
    · rename_i h1
      exact skipN_more src c hc n m _ (by have := nextch_left src st (on_ne hc h1); omega) (by omega)
    · rfl
theorem skip_eq (src : ByteArray) (c : Int → Bool) (hc : c (-1) = false) (st : St) : skip src c st = if c st.ch = true then skip src c (nextch src st) else st := by
  unfold skip
  by_cases h1 : c st.ch = true
  · rw [if_pos h1]
    have h2 := nextch_left src st (on_ne hc h1)
    obtain ⟨n, hn⟩ : ∃ n, left src st = n + 1 := ⟨left src st - 1, by omega⟩
    rw [hn]
    simp only [skipN, if_pos h1]
    exact (skipN_more src c hc _ n _ (Nat.le_refl _) (by omega)).symm
  · rw [if_neg h1]
    cases left src st with
    | zero => rfl
    | succ n => simp only [skipN, if_neg h1]
/-- A property that holds ahead of skipping and is kept by each character holds behind it. -/
theorem skip_ind (src : ByteArray) (c : Int → Bool) {P : St → Prop} (h : ∀ st, P st → c st.ch = true → P (nextch src st)) (st : St) (h0 : P st) : P (skip src c st) := by
  unfold skip
  generalize left src st = n
  induction n generalizing st with
  | zero => exact h0
  | succ n ih =>
    simp only [skipN]
    split
    · rename_i h1; exact ih _ (h st h0 h1)
    · exact h0
theorem skip_len (src : ByteArray) (c : Int → Bool) (st : St) : st.notes.length ≤ (skip src c st).notes.length :=
  skip_ind src c (P := fun s => st.notes.length ≤ s.notes.length) (fun s h _ => Nat.le_trans h (nextch_len src s)) st (Nat.le_refl _)
/-- A loop that goes on while the character is such. -/
theorem while_at {A : Ad} (hA : A.Ok) {N id : Nat} {b : Code} (c : Int → Bool) (hc : c (-1) = false) {κ : Type} (tm : κ → List (Nat × SV))
    (hB : At (SY A) N b (fun p : St × List Value × κ => Es A p.1 p.2.1 (tm p.2.2)) (fun p => if c p.1.ch = true then .leaf (.normal, Es A (nextch A.src p.1) p.2.1 (tm p.2.2)) else .leaf (.exit id, Es A p.1 p.2.1 (tm p.2.2)))) :
    At (SY A) N (.block id (.loop b)) (fun p : St × List Value × κ => Es A p.1 p.2.1 (tm p.2.2)) (fun p => .leaf (.normal, Es A (skip A.src c p.1) p.2.1 (tm p.2.2))) := by
  refine At.loop (fun p => left A.src p.1) hB (fun p Q hs => ?_) (fun p Q hb hs => ?_)
  · have hs' : Q (.normal, Es A (skip A.src c p.1) p.2.1 (tm p.2.2)) := hs
    rw [skip_eq A.src c hc] at hs'
    by_cases h1 : c p.1.ch = true
    · rw [if_pos h1] at hs' ⊢
      exact ⟨(nextch A.src p.1, p.2.1, p.2.2), Lax.refl _, nextch_left A.src p.1 (on_ne hc h1), hs'⟩
    · rw [if_neg h1] at hs' ⊢
      show if id = id then _ else _
      rw [if_pos rfl]
      exact ⟨_, Lax.refl _, hs'⟩
  · exact ⟨_, hs, Nat.le_trans (show lim ≤ p.1.notes.length from hb) (skip_len A.src c p.1)⟩
end Sc
end Go.Proofs.YtogkcphobhhbdaaDoor

/- A small evaluator of the model's code over known state. Generic part 14: loops as trees that go on. -/
namespace Go.Proofs.YtogkcphobhhbdaaDoor
open Go Go.RowKit
namespace Ev
set_option maxRecDepth 100000
inductive Step (α β : Type) where
  | go (a : α)
  | out (b : β)
/-- Rounds, at most so many. -/
def runT {α β : Type} (body : α → Tree (Step α β)) : Nat → α → Tree β
  | 0, _ => .fail
  | n + 1, a => (body a).bind fun s => match s with
    | .go a' => runT body n a'
    | .out b => .leaf b
theorem bind_assoc {α β γ : Type} (t : Tree α) (f : α → Tree β) (g : β → Tree γ) : (t.bind f).bind g = t.bind fun a => (f a).bind g := by
  induction t with
  | leaf a => rfl
  | test b t e iht ihe => simp only [Tree.bind, iht, ihe]
  | req p k ih => simp only [Tree.bind, ih]
  | any t e iht ihe => simp only [Tree.bind, iht, ihe]
  | fail => rfl
/-- A round's end as the evaluator has it. -/
def stepX {Y : Sys} {α β : Type} (F : α → E Y) (G : β → Ex × E Y) : Step α β → Ex × E Y
  | .go a => (.normal, F a)
  | .out q => G q
def outX {Y : Sys} (id : Nat) (xe : Ex × E Y) : Ex × E Y := match xe.1 with
  | .exit i => (if i = id then .normal else .exit i, xe.2)
  | _ => xe
/-- A loop whose body is told, as rounds of it. -/
theorem At.run {Y : Sys} {N id : Nat} {b : Code} {α β : Type} {F : α → E Y} {G : β → Ex × E Y} {body : α → Tree (Step α β)} (fuel : α → Nat)
    (hB : At Y N b F (fun p => (body p).bind fun s => .leaf (stepX F G s))) (hG : ∀ q, (G q).1 ≠ .normal) :
    At Y N (.block id (.loop b)) F (fun p => (runT body (fuel p) p).bind fun q => .leaf (outX id (G q))) := by
  have hm : ∀ (n : Nat) (p : α) (Q : Ex × E Y → Prop), Y.big (F p).c.st → ((runT body n p).bind fun q => .leaf (outX id (G q))).sat Q → ∃ q, Q q ∧ Y.big q.2.c.st := by
    intro n
    induction n with
    | zero => intro p Q _ hs; exact hs.elim
    | succ n ih =>
      intro p Q hb hs
      simp only [runT, bind_assoc, sat_bind] at hs
      obtain ⟨⟨x, e⟩, hq, hb'⟩ := hB.mono p (fun xe => match xe.1 with
        | .normal => ∃ a, xe.2 = F a ∧ ((runT body n a).bind fun q => .leaf (outX id (G q))).sat Q
        | _ => ∃ q, xe = G q ∧ Q (outX id (G q))) hb (by
          rw [sat_bind]
          refine sat_mono hs (fun s h => ?_)
          cases s with
          | go a => exact ⟨a, rfl, by rw [sat_bind]; exact h⟩
          | out q =>
            simp only [Tree.sat, stepX] at h ⊢
            have hn := hG q
            generalize hgq : G q = gq at *
            obtain ⟨x, e⟩ := gq
            cases x with
            | normal => exact absurd rfl hn
            | exit i => exact ⟨q, hgq.symm, by rw [hgq]; exact h⟩
            | goto l => exact ⟨q, hgq.symm, by rw [hgq]; exact h⟩
            | ret => exact ⟨q, hgq.symm, by rw [hgq]; exact h⟩)
      have hout : (∃ q, (x, e) = G q ∧ Q (outX id (G q))) → ∃ q, Q q ∧ Y.big q.2.c.st := by
        rintro ⟨q, hg, hq⟩
        refine ⟨_, hq, ?_⟩
        rw [← hg]
        unfold outX
        split <;> exact hb'
      cases x with
      | normal => obtain ⟨a, ha, hs'⟩ := hq; exact ih a Q (by rw [← ha]; exact hb') hs'
      | exit i => exact hout hq
      | goto l => exact hout hq
      | ret => exact hout hq
  have key : At Y N (.block id (.loop b)) (fun p : Nat × α => F p.2) (fun p => (runT body p.1 p.2).bind fun q => .leaf (outX id (G q))) := by
    have hB' : At Y N b (fun p : Nat × α => F p.2) (fun p => (body p.2).bind fun s => .leaf (stepX F G s)) :=
      ⟨fun p => hB.wp p.2, fun p => hB.mono p.2⟩
    refine At.loop (fun p => p.1) hB' (fun p Q hs => ?_) (fun p Q hb hs => hm p.1 p.2 Q hb hs)
    obtain ⟨n, p⟩ := p
    cases n with
    | zero => exact hs.elim
    | succ n =>
      simp only [runT, bind_assoc, sat_bind] at hs ⊢
      refine sat_mono hs (fun s h => ?_)
      cases s with
      | go a => exact ⟨(n, a), Lax.refl _, Nat.lt_succ_self n, h⟩
      | out q =>
        have h' : Q (outX id (G q)) := h
        have hn := hG q
        simp only [Tree.sat, stepX]
        generalize G q = gq at *
        obtain ⟨x, e⟩ := gq
        cases x with
        | normal => exact absurd rfl hn
        | exit i =>
          simp only [outX] at h' ⊢
          by_cases hi : i = id
          · rw [if_pos hi] at h' ⊢; exact ⟨e, Lax.refl _, h'⟩
          · rw [if_neg hi] at h' ⊢; exact h'
        | goto l => exact h'
        | ret => exact h'
  exact ⟨fun p => key.wp (fuel p, p), fun p => key.mono (fuel p, p)⟩
/-- A block's summary, where its slots are such. -/
def blkG {Y : Sys} {π : Type} (κ : E Y → Option π) (g : π → Tree (Ex × E Y)) (e : E Y) : Tree (Ex × E Y) := match κ e with
  | some p => g p
  | none => .fail
theorem blkG_ok {Y : Sys} {N id : Nat} {b : Code} {π : Type} {F : π → E Y} {g : π → Tree (Ex × E Y)} (hA : At Y N (.block id b) F g) {κ : E Y → Option π} (hκ : ∀ e p, κ e = some p → Lax e (F p)) : BlkOk Y N id b (blkG κ g) := by
  refine At.blk (At.refine hA (fun e Q hs => ?_))
  unfold blkG at hs
  split at hs
  · rename_i p hp
    exact ⟨p, hκ e p hp, sat_mono hs (fun xe hq => ⟨xe.2, Lax.refl _, hq⟩)⟩
  · exact hs.elim
/-- Each leaf bears P. -/
def Tree.all {α : Type} (P : α → Prop) : Tree α → Prop
  | .leaf a => P a
  | .test b t e => (b = true → t.all P) ∧ (b = false → e.all P)
  | .req _ k => k.all P
  | .any t e => t.all P ∧ e.all P
  | .fail => True
/-- What holds of rounds: by an invariant and a measure. -/
theorem run_sat {α β : Type} {body : α → Tree (Step α β)} (μ : α → Nat) (I : α → Prop) {P : β → Prop}
    (h : ∀ a, I a → (body a).sat fun s => match s with
      | .go a' => I a' ∧ μ a' < μ a
      | .out b => P b) : ∀ (n : Nat) (a : α), I a → μ a < n → (runT body n a).sat P
  | 0, a, _, hn => absurd hn (Nat.not_lt_zero _)
  | n + 1, a, ha, hn => by
    simp only [runT, sat_bind]
    refine sat_mono (h a ha) (fun s hs => ?_)
    cases s with
    | go a' => exact run_sat μ I h n a' hs.1 (by omega)
    | out b => exact hs
theorem safe_of_sat {α : Type} {t : Tree α} (hn : t.noAny) {P : α → Prop} (h : t.sat P) : t.safe := by
  induction t with
  | leaf a => trivial
  | test b t e iht ihe => exact ⟨fun hb => iht hn.1 (h.1 hb), fun hb => ihe hn.2 (h.2 hb)⟩
  | req p k ih => exact ⟨h.1, ih hn h.2⟩
  | any t e _ _ => exact hn.elim
  | fail => exact h.elim
theorem run_noAny {α β : Type} {body : α → Tree (Step α β)} (h : ∀ a, (body a).noAny) : ∀ (n : Nat) (a : α), (runT body n a).noAny
  | 0, a => trivial
  | n + 1, a => by
    simp only [runT]
    refine noAny_bind (h a) (fun s => ?_)
    cases s with
    | go a' => exact run_noAny h n a'
    | out b => trivial
/-- What a tree with one answer comes to. -/
theorem get_sat {α : Type} {d : α} {t : Tree α} (hn : t.noAny) {P Q : α → Prop} (hs : t.sat P) : t.sat Q ↔ Q (t.get d) :=
  ⟨fun h => get_of_sat h, fun h => sat_of_get (safe_of_sat hn hs) h⟩
/-- The answer of a loop's rounds. -/
def runF {α β : Type} (body : α → Tree (Step α β)) (μ : α → Nat) (d : β) (a : α) : β := (runT body (μ a + 1) a).get d
theorem runF_sat {α β : Type} {body : α → Tree (Step α β)} {μ : α → Nat} {d : β} (I : α → Prop) {P : β → Prop}
    (h : ∀ a, I a → (body a).sat fun s => match s with
      | .go a' => I a' ∧ μ a' < μ a
      | .out b => P b) (a : α) (ha : I a) : P (runF body μ d a) := get_of_sat (run_sat μ I h (μ a + 1) a ha (Nat.lt_succ_self _))
/-- A loop told by the answer of its rounds, where I. -/
theorem At.runI {Y : Sys} {N id : Nat} {b : Code} {κ α β : Type} {F : κ → α → E Y} {G : κ → β → Ex × E Y} {body : α → Tree (Step α β)} (μ : α → Nat) (d : β) (I : α → Prop)
    (hB : ∀ k, At Y N b (F k) (fun p => (body p).bind fun s => .leaf (stepX (F k) (G k) s))) (hG : ∀ k q, (G k q).1 ≠ .normal) (hn : ∀ a, (body a).noAny)
    (hs : ∀ a, I a → (body a).sat fun s => match s with
      | .go a' => I a' ∧ μ a' < μ a
      | .out _ => True) :
    At Y N (.block id (.loop b)) (fun p : α × κ => F p.2 p.1) (fun p => .req (I p.1) (.leaf (outX id (G p.2 (runF body μ d p.1))))) := by
  have key : ∀ (p : α × κ) (Q : Ex × E Y → Prop), (Tree.req (I p.1) (.leaf (outX id (G p.2 (runF body μ d p.1))))).sat Q → ((runT body (μ p.1 + 1) p.1).bind fun q => .leaf (outX id (G p.2 q))).sat Q := by
    intro p Q h
    rw [sat_bind]
    exact sat_of_get (safe_of_sat (run_noAny hn _ _) (run_sat μ I hs (μ p.1 + 1) p.1 h.1 (Nat.lt_succ_self _))) h.2
  exact ⟨fun p bl a w Q hI h => (At.run (fun p => μ p + 1) (hB p.2) (hG p.2)).wp p.1 bl a w Q hI (key p Q h), fun p Q hb h => (At.run (fun p => μ p + 1) (hB p.2) (hG p.2)).mono p.1 Q hb (key p Q h)⟩
/-- The same, wherever. -/
theorem At.run0 {Y : Sys} {N id : Nat} {b : Code} {κ α β : Type} {F : κ → α → E Y} {G : κ → β → Ex × E Y} {body : α → Tree (Step α β)} (μ : α → Nat) (d : β)
    (hB : ∀ k, At Y N b (F k) (fun p => (body p).bind fun s => .leaf (stepX (F k) (G k) s))) (hG : ∀ k q, (G k q).1 ≠ .normal) (hn : ∀ a, (body a).noAny)
    (hs : ∀ a, (body a).sat fun s => match s with
      | .go a' => μ a' < μ a
      | .out _ => True) :
    At Y N (.block id (.loop b)) (fun p : α × κ => F p.2 p.1) (fun p => .leaf (outX id (G p.2 (runF body μ d p.1)))) := by
  have := At.runI μ d (fun _ => True) hB hG hn (fun a _ => sat_mono (hs a) (fun s h => by cases s with
    | go a' => exact ⟨trivial, h⟩
    | out q => trivial)) (id := id)
  exact ⟨fun p bl a w Q hI h => this.wp p bl a w Q hI ⟨trivial, h⟩, fun p Q hb h => this.mono p Q hb ⟨trivial, h⟩⟩
def allLax (tm : List (Nat × SV)) : List (Nat × SV) → Prop
  | [] => True
  | (i, v) :: r => (look tm i = v ∨ ∃ u, toVal (look tm i) = some u ∧ v = .val u) ∧ allLax tm r
theorem lax_of {Y : Sys} {e : E Y} {c : Core Y} {l : List (Nat × SV)} (hc : c = e.c) (h : allLax e.tm l) : Lax e ⟨c, l⟩ := by
  refine ⟨hc, fun i => ?_⟩
  have key : ∀ l, allLax e.tm l → look l i = .junk ∨ look l i = look e.tm i ∨ ∃ v, toVal (look e.tm i) = some v ∧ look l i = .val v := by
    intro l
    induction l with
    | nil => intro _; exact .inl rfl
    | cons p r ih =>
      obtain ⟨j, v⟩ := p
      rintro ⟨h1, h2⟩
      rw [look_cons]
      by_cases hi : i = j
      · rw [if_pos hi, hi]
        rcases h1 with h1 | ⟨u, h1, h3⟩
        · exact .inr (.inl h1.symm)
        · exact .inr (.inr ⟨u, h1, h3⟩)
      · rw [if_neg hi]; exact ih h2
  exact key l h
theorem At.par {Y : Sys} {N : Nat} {c : Code} {π κ : Type} {F : κ → π → E Y} {g : κ → π → Tree (Ex × E Y)} (h : ∀ k, At Y N c (F k) (g k)) : At Y N c (fun p : π × κ => F p.2 p.1) (fun p => g p.2 p.1) :=
  ⟨fun p => (h p.2).wp p.1, fun p => (h p.2).mono p.1⟩
end Ev
end Go.Proofs.YtogkcphobhhbdaaDoor

/- The scanner's functions over the plain state: lines; what the greater ones may call. -/
namespace Go.Proofs.YtogkcphobhhbdaaDoor
open Go Go.RowKit Go.Lib
namespace Sc
open Ev
set_option maxRecDepth 100000
noncomputable def eSums (A : Ad) : List (Nat × Smy (SY A)) := (84, erfS A) :: (105, eraS A) :: (104, stlS A) :: (109, comS A) :: sSums A
theorem eSums_ok (A : Ad) (hA : A.Ok) : SumsOk A (eSums A) := by
  refine SumsOk.cons ?_ (erfS_ok A hA) rfl rfl (fun h => by cases h)
  refine SumsOk.cons ?_ (eraS_ok A hA) rfl rfl (fun h => by cases h)
  refine SumsOk.cons ?_ (stlS_ok A hA) rfl rfl (fun h => by cases h)
  refine SumsOk.cons ?_ (comS_ok A hA) rfl rfl (fun h => by cases h)
  exact sSums_ok A hA
noncomputable abbrev cfE (A : Ad) (N : Nat) : Cfg (SY A) := cfgL A (eSums A) N [] 0
/-- A loop's body, as the evaluator tells it. -/
theorem At.same {Y : Ev.Sys} (hY : Laws Y) {C : Cfg Y} (hC : C.Ok) {c : Code} {π : Type} {F : π → E Y} {g : π → Tree (Ex × E Y)} (keep : Ex → List Nat)
    (h : ∀ p, (evCode C c (F p)).bind (fun xe => .leaf (xe.1, pare (keep xe.1) xe.2)) = g p) : At Y C.N c F g :=
  At.pared hY hC keep (fun p Q hs => by rw [h]; exact hs)
def st0 : St := ⟨false, 0, 0, none, 0, 0, -1, 0, false, 0, 0, false, 0, .empty, false, 0, 0, 0, []⟩
def notLine (x : Int) : Bool := decide (x ≥ 0) && (x != 10)
theorem skipLine_ev (A : Ad) (st : St) (bx : List Value) : (evCode (cfE A Tryd.f108.ntmps) (loopOf (blkOf (bodyOf Tryd.f108) 0)) ⟨⟨st, bx⟩, [(0, .st 0)]⟩).bind (fun xe => .leaf (xe.1, pare [0] xe.2)) =
  .test (decide (st.ch ≥ 0)) (.test (st.ch != 10) (.leaf (.normal, ⟨⟨nextch A.src st, bx⟩, [(0, .st 0)]⟩)) (.leaf (.exit 0, ⟨⟨st, bx⟩, [(0, .st 0)]⟩))) (.leaf (.exit 0, ⟨⟨st, bx⟩, [(0, .st 0)]⟩)) := by kernel_rfl
theorem skipLine_body : (Tryd.f108).body = some (.block 0 (.loop (loopOf (blkOf (bodyOf Tryd.f108) 0)))) := by kernel_rfl
theorem skipLine_at (A : Ad) (hA : A.Ok) : At (SY A) Tryd.f108.ntmps (.block 0 (.loop (loopOf (blkOf (bodyOf Tryd.f108) 0)))) (fun p : St × List Value × PUnit => Es A p.1 p.2.1 [(0, .st 0)]) (fun p => .leaf (.normal, Es A (skip A.src notLine p.1) p.2.1 [(0, .st 0)])) := by
  refine while_at hA notLine rfl (fun _ => [(0, .st 0)]) ?_
  refine At.pared (SLaws A hA) (cfgL_ok A hA (eSums_ok A hA) _ [] 0) (fun _ => [0]) (fun p Q hs => ?_)
  show ((evCode (cfE A Tryd.f108.ntmps) (loopOf (blkOf (bodyOf Tryd.f108) 0)) ⟨⟨p.1, p.2.1⟩, [(0, .st 0)]⟩).bind (fun xe => .leaf (xe.1, pare [0] xe.2))).sat Q
  rw [skipLine_ev]
  by_cases hn : notLine p.1.ch = true
  · rw [if_pos hn] at hs
    have h1 := Bool.and_eq_true_iff.1 hn
    exact ⟨fun _ => ⟨fun _ => hs, fun h => by rw [h1.2] at h; cases h⟩, fun h => by rw [h1.1] at h; cases h⟩
  · rw [if_neg hn] at hs
    refine ⟨fun h1 => ⟨fun h2 => ?_, fun _ => hs⟩, fun _ => hs⟩
    exact absurd (Bool.and_eq_true_iff.2 ⟨h1, h2⟩) hn
noncomputable def skipLineS (A : Ad) : Smy (SY A) := ⟨108, #[], true, onSt0 A (skip A.src notLine)⟩
/-- A function of the scanner alone, its body told. -/
theorem fn_at {A : Ad} {f : FuncId} {fn : Func} {b : Code} {N : Nat} (hf : Tryd.prog.funcs[f]? = some fn) (hb : fn.body = some b) (hN : fn.ntmps = N) (h1 : 1 ≤ N) (hr : fn.results.toList = []) (he : ∀ args w, (callFunc f args).run Tryd.prog w = .ok (.enter f args) w)
    {P : St → Prop} {φ : St → St} {g : St × List Value → Tree (Ex × E (SY A))} (hAt : At (SY A) N b (fun p : St × List Value => Es A p.1 p.2 [(0, .st 0)]) g)
    (hg : ∀ st bx (Q : Ex × E (SY A) → Prop), P st → (∀ x e, (x = .normal ∨ x = .ret) → e.c = ⟨φ st, bx⟩ → Q (x, e)) → (g (st, bx)).sat Q) (hm : ∀ st, st.notes.length ≤ (φ st).notes.length) : (Smy.mk f #[] true (onSt A P φ) : Smy (SY A)).Ok := by
  refine ⟨he, ?_, onSt_mono hm⟩
  refine At.fn (Y := SY A) hf hb hN (π := St × List Value) (arg := fun _ => [.st 0]) (core := fun p => ⟨p.1, p.2⟩) (fun _ => h1) hAt (fun args c Q h => ?_)
  have h : (onSt A P φ args c).sat Q := h
  unfold onSt at h
  split at h
  · refine ⟨(c.st, c.bx), rfl, rfl, hg _ _ _ h.1 (fun x e hx hec => ?_)⟩
    obtain ⟨ec, etm⟩ := e
    have hec' : ec = ⟨φ c.st, c.bx⟩ := hec
    subst hec'
    rcases hx with rfl | rfl
    · show (match evRes etm fn.results.toList with
        | some r => Tree.leaf (r, (⟨φ c.st, c.bx⟩ : Core (SY A)))
        | none => .fail).sat Q
      rw [hr]; exact h.2
    · show (match evRes etm fn.results.toList with
        | some r => Tree.leaf (r, (⟨φ c.st, c.bx⟩ : Core (SY A)))
        | none => .fail).sat Q
      rw [hr]; exact h.2
  · exact h.elim
/-- A function of the scanner alone, its body told, wherever. -/
theorem fn_at0 {A : Ad} {f : FuncId} {fn : Func} {b : Code} {N : Nat} (hf : Tryd.prog.funcs[f]? = some fn) (hb : fn.body = some b) (hN : fn.ntmps = N) (h1 : 1 ≤ N) (hr : fn.results.toList = []) (he : ∀ args w, (callFunc f args).run Tryd.prog w = .ok (.enter f args) w)
    {φ : St → St} {g : St × List Value → Tree (Ex × E (SY A))} (hAt : At (SY A) N b (fun p : St × List Value => Es A p.1 p.2 [(0, .st 0)]) g)
    (hg : ∀ st bx (Q : Ex × E (SY A) → Prop), (∀ x e, (x = .normal ∨ x = .ret) → e.c = ⟨φ st, bx⟩ → Q (x, e)) → (g (st, bx)).sat Q) (hm : ∀ st, st.notes.length ≤ (φ st).notes.length) : (Smy.mk f #[] true (onSt0 A φ) : Smy (SY A)).Ok := by
  refine ⟨he, ?_, onSt0_mono hm⟩
  refine At.fn (Y := SY A) hf hb hN (π := St × List Value) (arg := fun _ => [.st 0]) (core := fun p => ⟨p.1, p.2⟩) (fun _ => h1) hAt (fun args c Q h => ?_)
  have h : (onSt0 A φ args c).sat Q := h
  unfold onSt0 at h
  split at h
  · refine ⟨(c.st, c.bx), rfl, rfl, hg _ _ _ (fun x e hx hec => ?_)⟩
    obtain ⟨ec, etm⟩ := e
    have hec' : ec = ⟨φ c.st, c.bx⟩ := hec
    subst hec'
    rcases hx with rfl | rfl
    · show (match evRes etm fn.results.toList with
        | some r => Tree.leaf (r, (⟨φ c.st, c.bx⟩ : Core (SY A)))
        | none => .fail).sat Q
      rw [hr]; exact h
    · show (match evRes etm fn.results.toList with
        | some r => Tree.leaf (r, (⟨φ c.st, c.bx⟩ : Core (SY A)))
        | none => .fail).sat Q
      rw [hr]; exact h
  · exact h.elim
theorem skipLineS_ok (A : Ad) (hA : A.Ok) : (skipLineS A).Ok := by
  refine fn_at0 (A := A) Tryd.func108 skipLine_body (N := Tryd.f108.ntmps) rfl (by decide) rfl (fun args w => by kernel_rfl) (g := fun p => .leaf (.normal, Es A (skip A.src notLine p.1) p.2 [(0, .st 0)])) ?_ (fun st bx Q hQ => hQ _ _ (.inl rfl) rfl) (skip_len A.src notLine)
  have := skipLine_at A hA
  exact ⟨fun p => this.wp (p.1, p.2, ⟨⟩), fun p => this.mono (p.1, p.2, ⟨⟩)⟩
/-- The scanner in slot 0, and nothing else. -/
noncomputable def at0 (A : Ad) (p : St × List Value) : E (SY A) := ⟨⟨p.1, p.2⟩, [(0, .st 0)]⟩
noncomputable def in0 (A : Ad) (e : E (SY A)) : Option (St × List Value) := match Ev.look e.tm 0 with
  | .st 0 => some (e.c.st, e.c.bx)
  | _ => none
theorem in0_ok {A : Ad} (e : E (SY A)) (p : St × List Value) (h : in0 A e = some p) : Lax e (at0 A p) := by
  unfold in0 at h
  split at h
  · rename_i h0
    simp only [Option.some.injEq] at h
    subst h
    refine ⟨rfl, fun i => ?_⟩
    have hl : Ev.look (at0 A (e.c.st, e.c.bx)).tm i = if i = 0 then .st 0 else .junk := by
      show Ev.look [(0, SV.st 0)] i = _
      rw [look_cons]; rfl
    rw [hl]
    by_cases hi : i = 0
    · rw [if_pos hi, hi]; exact .inr (.inl h0.symm)
    · rw [if_neg hi]; exact .inl rfl
  · cases h
/-- Slot 0, and a bool in slot k. -/
noncomputable def atB (A : Ad) (k : Nat) (p : St × List Value × Bool) : E (SY A) := ⟨⟨p.1, p.2.1⟩, [(0, .st 0), (k, .val (.bool p.2.2))]⟩
noncomputable def inB (A : Ad) (k : Nat) (e : E (SY A)) : Option (St × List Value × Bool) := match Ev.look e.tm 0, Ev.look e.tm k with
  | .st 0, .tt => some (e.c.st, e.c.bx, true)
  | .st 0, .ff => some (e.c.st, e.c.bx, false)
  | .st 0, .val (.bool b) => some (e.c.st, e.c.bx, b)
  | _, _ => none
theorem inB_ok {A : Ad} (k : Nat) (hk : k ≠ 0) (e : E (SY A)) (p : St × List Value × Bool) (h : inB A k e = some p) : Lax e (atB A k p) := by
  have key : Ev.look e.tm 0 = .st 0 → (Ev.look e.tm k = .val (.bool p.2.2) ∨ toVal (Ev.look e.tm k) = some (.bool p.2.2)) → (p.1, p.2.1) = (e.c.st, e.c.bx) → Lax e (atB A k p) := by
    intro h0 hv hp
    have hp1 := congrArg Prod.fst hp
    have hp2 := congrArg Prod.snd hp
    simp only at hp1 hp2
    refine ⟨by show (⟨p.1, p.2.1⟩ : Core (SY A)) = e.c; rw [hp1, hp2], fun i => ?_⟩
    have hl : Ev.look (atB A k p).tm i = if i = 0 then .st 0 else if i = k then .val (.bool p.2.2) else .junk := by
      show Ev.look [(0, SV.st 0), (k, .val (.bool p.2.2))] i = _
      rw [look_cons, look_cons]; rfl
    rw [hl]
    by_cases hi : i = 0
    · rw [if_pos hi, hi]; exact .inr (.inl h0.symm)
    · rw [if_neg hi]
      by_cases hi : i = k
      · rw [if_pos hi, hi]
        rcases hv with hv | hv
        · exact .inr (.inl hv.symm)
        · exact .inr (.inr ⟨_, hv, rfl⟩)
      · rw [if_neg hi]; exact .inl rfl
  unfold inB at h
  split at h
  · rename_i h0 h1; simp only [Option.some.injEq] at h; subst h; exact key h0 (.inr (by rw [h1]; rfl)) rfl
  · rename_i h0 h1; simp only [Option.some.injEq] at h; subst h; exact key h0 (.inr (by rw [h1]; rfl)) rfl
  · rename_i h0 h1; simp only [Option.some.injEq] at h; subst h; exact key h0 (.inl h1) rfl
  · cases h
end Sc
end Go.Proofs.YtogkcphobhhbdaaDoor

/- The scanner's functions over the plain state: remarks that have an end of their own. -/
namespace Go.Proofs.YtogkcphobhhbdaaDoor
open Go Go.RowKit Go.Lib
namespace Sc
open Ev
set_option maxRecDepth 100000
/-- Stars, and a stroke behind them or not. -/
def starsB (src : ByteArray) (st : St) : Tree (Step St (Bool × St)) :=
  (.test (st.ch == 42)
    (.test ((nextch src st).ch == 47)
      (.leaf (Step.out (true, nextch src (nextch src st))))
      (.leaf (Step.go (nextch src st))))
    (.leaf (Step.out (false, st))))
noncomputable def starsX (A : Ad) (bx : List Value) (q : Bool × St) : Ex × E (SY A) := match q with
  | (true, st) => (.ret, ⟨⟨st, bx⟩, [(0, .st 0), (2, .val (.bool true))]⟩)
  | (false, st) => (.exit 2, ⟨⟨st, bx⟩, [(0, .st 0)]⟩)
noncomputable abbrev scLoop2 : Code := loopOf (blkOf (bodyOf Tryd.f110) 2)
def keep2 : Ex → List Nat
  | .ret => [0, 2]
  | _ => [0]
theorem stars_ev (A : Ad) (st : St) (bx : List Value) : (evCode (cfE A Tryd.f110.ntmps) scLoop2 (at0 A (st, bx))).bind (fun xe => .leaf (xe.1, pare (keep2 xe.1) xe.2)) =
    (starsB A.src st).bind fun s => .leaf (stepX (fun st => at0 A (st, bx)) (starsX A bx) s) := by kernel_rfl
def starsF (src : ByteArray) (st : St) : Bool × St := runF (starsB src) (left src) (false, st0) st
theorem starsB_noAny (src : ByteArray) (st : St) : (starsB src st).noAny := ⟨⟨trivial, trivial⟩, trivial⟩
theorem starsB_on (src : ByteArray) (st : St) : (starsB src st).sat fun s => match s with
    | .go a' => left src a' < left src st
    | .out _ => True :=
  ⟨fun h => ⟨fun _ => trivial, fun _ => nextch_left src st (fun e => by rw [e] at h; cases h)⟩, fun _ => trivial⟩
theorem stars_at (A : Ad) (hA : A.Ok) : At (SY A) Tryd.f110.ntmps (.block 2 (.loop scLoop2)) (at0 A) (fun p => .leaf (outX 2 (starsX A p.2 (starsF A.src p.1)))) := by
  have := At.run0 (Y := SY A) (id := 2) (F := fun bx st => at0 A (st, bx)) (G := starsX A) (body := starsB A.src) (left A.src) (d := (false, st0)) (b := scLoop2) (N := Tryd.f110.ntmps)
    (fun bx => At.same (SLaws A hA) (cfgL_ok A hA (eSums_ok A hA) _ [] 0) keep2 (fun st => stars_ev A st bx)) (fun bx q => by obtain ⟨⟨⟩ | ⟨⟩, st⟩ := q <;> simp [starsX]) (starsB_noAny A.src) (starsB_on A.src)
  exact this
noncomputable def starsG (A : Ad) (p : St × List Value) : Tree (Ex × E (SY A)) :=
  .test (starsF A.src p.1).1 (.leaf (.ret, ⟨⟨(starsF A.src p.1).2, p.2⟩, [(0, .st 0), (2, .val (.bool true))]⟩)) (.leaf (.normal, at0 A ((starsF A.src p.1).2, p.2)))
theorem stars_blk (A : Ad) (hA : A.Ok) : BlkOk (SY A) Tryd.f110.ntmps 2 (.loop scLoop2) (blkG (in0 A) (starsG A)) := by
  refine blkG_ok (At.refine (stars_at A hA) (fun p Q hs => ⟨p, Lax.refl _, ?_⟩)) in0_ok
  unfold starsG at hs
  show ∃ e', Lax (outX 2 (starsX A p.2 (starsF A.src p.1))).2 e' ∧ Q ((outX 2 (starsX A p.2 (starsF A.src p.1))).1, e')
  generalize starsF A.src p.1 = q at *
  obtain ⟨⟨⟩ | ⟨⟩, st⟩ := q
  · exact ⟨_, Lax.refl _, hs.2 rfl⟩
  · exact ⟨_, Lax.refl _, hs.1 rfl⟩
noncomputable abbrev cfSC (A : Ad) : Cfg (SY A) := cfgL A (eSums A) Tryd.f110.ntmps [(2, blkG (in0 A) (starsG A))] 0
/-- Up to a star with a stroke behind it, or the end. -/
def scB (src : ByteArray) (st : St) : Tree (Step St (Bool × St)) :=
  (.test (decide (st.ch ≥ 0))
    (.test ((starsF src st).fst)
      (.leaf (Step.out (true, (starsF src st).snd)))
      (.leaf (Step.go (nextch src (starsF src st).snd))))
    (.leaf (Step.out (false, st))))
noncomputable def scX (A : Ad) (bx : List Value) (q : Bool × St) : Ex × E (SY A) := match q with
  | (true, st) => (.ret, ⟨⟨st, bx⟩, [(0, .st 0), (2, .val (.bool true))]⟩)
  | (false, st) => (.exit 0, ⟨⟨st, bx⟩, [(0, .st 0)]⟩)
noncomputable abbrev scLoop0 : Code := loopOf (blkOf (bodyOf Tryd.f110) 0)
theorem sc_ev (A : Ad) (st : St) (bx : List Value) : (evCode (cfSC A) scLoop0 (at0 A (st, bx))).bind (fun xe => .leaf (xe.1, pare (keep2 xe.1) xe.2)) =
  (.test (decide (st.ch ≥ 0))
    (.req (BlkOk (SY A) Tryd.f110.ntmps 2 (.loop scLoop2) (blkG (in0 A) (starsG A)))
      (.test ((starsF A.src st).fst)
        (.leaf (scX A bx (true, (starsF A.src st).snd)))
        (.leaf (.normal, at0 A (nextch A.src (starsF A.src st).snd, bx)))))
    (.leaf (scX A bx (false, st)))) := by kernel_rfl
/-- Behind stars that did not end it: what was, or a character that is no star. -/
theorem starsF_end (src : ByteArray) (st : St) : (starsF src st).1 = false → (starsF src st).2 = st ∨ left src (starsF src st).2 < left src st := by
  unfold starsF
  refine runF_sat (body := starsB src) (μ := left src) (fun a => a = st ∨ left src a < left src st) (P := fun (b : Bool × St) => b.1 = false → b.2 = st ∨ left src b.2 < left src st) (fun a ha => ⟨fun h => ⟨(fun h2 h3 => by cases h3), fun _ => ?_⟩, (fun _ _ => ha)⟩) st (.inl rfl)
  have h3 := nextch_left src a (fun e => by rw [e] at h; cases h)
  refine ⟨.inr ?_, h3⟩
  show left src (nextch src a) < _
  rcases ha with rfl | ha
  · exact h3
  · omega
/-- One character on is never less than half of the rest. -/
theorem nextch_le (src : ByteArray) (st : St) : left src (nextch src st) ≤ left src st := by
  by_cases h : st.ch = -1
  · by_cases hp : st.p < src.size
    · have := readAt_on src (nlLine st) src.size st.fresh st.p (nlCol st) st.notes hp
      have h1 : (nextch src st).p = (readAt src (nlLine st) (src.size + 1) st.fresh st.p (nlCol st) st.notes).p := rfl
      unfold left
      rw [if_pos h, h1]
      split <;> omega
    · have := readAt_end src (nlLine st) src.size st.fresh st.p (nlCol st) st.notes hp
      have h1 : (nextch src st).p = st.p := by show (readAt _ _ _ _ _ _ _).p = _; rw [this]
      have h2 : (nextch src st).ch = -1 := by show (readAt _ _ _ _ _ _ _).ch = _; rw [this]
      unfold left
      rw [if_pos h, h1, h2]
      simp
  · exact Nat.le_of_lt (nextch_left src st h)
def scF (src : ByteArray) (st : St) : Bool × St := runF (scB src) (left src) (false, st0) st
theorem scB_noAny (src : ByteArray) (st : St) : (scB src st).noAny := ⟨⟨trivial, trivial⟩, trivial⟩
theorem scB_on (src : ByteArray) (st : St) : (scB src st).sat fun s => match s with
    | .go a' => left src a' < left src st
    | .out _ => True := by
  refine ⟨fun h => ⟨fun _ => trivial, fun h2 => ?_⟩, fun _ => trivial⟩
  have hge : st.ch ≥ 0 := of_decide_eq_true h
  show left src (nextch src (starsF src st).2) < left src st
  rcases starsF_end src st h2 with h3 | h3
  · rw [h3]; exact nextch_left src st (by omega)
  · have := nextch_le src (starsF src st).2; omega
theorem sc_at (A : Ad) (hA : A.Ok) : At (SY A) Tryd.f110.ntmps (.block 0 (.loop scLoop0)) (at0 A) (fun p => .leaf (outX 0 (scX A p.2 (scF A.src p.1)))) := by
  have := At.run0 (Y := SY A) (id := 0) (F := fun bx st => at0 A (st, bx)) (G := scX A) (body := scB A.src) (left A.src) (d := (false, st0)) (b := scLoop0) (N := Tryd.f110.ntmps)
    (fun bx => At.pared (SLaws A hA) (cfgL_ok A hA (eSums_ok A hA) _ [(2, blkG (in0 A) (starsG A))] 0) keep2 (fun st Q hs => by
      refine (congrArg (fun T => Tree.sat T Q) (sc_ev A st bx)).mpr ?_
      exact ⟨fun h => ⟨stars_blk A hA, hs.1 h⟩, hs.2⟩)) (fun bx q => by obtain ⟨⟨⟩ | ⟨⟩, st⟩ := q <;> simp [scX]) (scB_noAny A.src) (scB_on A.src)
  exact this
noncomputable def scG (A : Ad) (p : St × List Value) : Tree (Ex × E (SY A)) :=
  .test (scF A.src p.1).1 (.leaf (.ret, ⟨⟨(scF A.src p.1).2, p.2⟩, [(0, .st 0), (2, .val (.bool true))]⟩)) (.leaf (.normal, at0 A ((scF A.src p.1).2, p.2)))
theorem sc_blk (A : Ad) (hA : A.Ok) : BlkOk (SY A) Tryd.f110.ntmps 0 (.loop scLoop0) (blkG (in0 A) (scG A)) := by
  refine blkG_ok (At.refine (sc_at A hA) (fun p Q hs => ⟨p, Lax.refl _, ?_⟩)) in0_ok
  unfold scG at hs
  show ∃ e', Lax (outX 0 (scX A p.2 (scF A.src p.1))).2 e' ∧ Q ((outX 0 (scX A p.2 (scF A.src p.1))).1, e')
  generalize scF A.src p.1 = q at *
  obtain ⟨⟨⟩ | ⟨⟩, st⟩ := q
  · exact ⟨_, Lax.refl _, hs.2 rfl⟩
  · exact ⟨_, Lax.refl _, hs.1 rfl⟩
noncomputable abbrev cfSC2 (A : Ad) : Cfg (SY A) := cfgL A (eSums A) Tryd.f110.ntmps [(0, blkG (in0 A) (scG A))] 0
end Sc
end Go.Proofs.YtogkcphobhhbdaaDoor

/- The scanner's functions over the plain state: answers as plain values; skipComment; escapes. -/
namespace Go.Proofs.YtogkcphobhhbdaaDoor
open Go Go.RowKit Go.Lib
namespace Sc
open Ev
set_option maxRecDepth 100000
/-- A function of the scanner, out of its evaluation; its answer said plainly. -/
theorem ev_okV {A : Ad} (hA : A.Ok) {f : FuncId} {fn : Func} (hf : Tryd.prog.funcs[f]? = some fn) (he : ∀ args w, (callFunc f args).run Tryd.prog w = .ok (.enter f args) w) {C : Cfg (SY A)} (hC : C.Ok)
    {G : List SV → Core (SY A) → Tree (SV × Core (SY A))} (h : ∀ args c (Q : SV × Core (SY A) → Prop), (G args c).sat Q → (evFn C fn args c).sat fun p => Q p ∨ ∃ u, toVal p.1 = some u ∧ Q (.val u, p.2)) : (Smy.mk f #[] true G : Smy (SY A)).Ok := by
  refine ⟨he, fun args c bl w vals Q hargs hc hs => ?_, fun args c Q hb hs => ?_⟩
  · refine (fn_sound (SLaws A hA) hC (Y := SY A) hf args c bl w vals _ hargs hc (h args c Q hs)).mono ?_
    rintro e w' (⟨sv, c', v, bl', hq | ⟨u, hu, hq⟩, h2, h3, h4, h5, h6⟩ | ⟨h1, p, hq | ⟨u, hu, hq⟩, hb⟩)
    · exact .inl ⟨sv, c', v, bl', hq, h2, h3, h4, h5, h6⟩
    · exact .inl ⟨.val u, c', v, bl', hq, h2, rel_toVal h3 hu, h4, h5, h6⟩
    · exact .inr ⟨h1, p, hq, hb⟩
    · exact .inr ⟨h1, _, hq, hb⟩
  · obtain ⟨p, hq | ⟨u, hu, hq⟩, hb'⟩ := fn_mono (SLaws A hA) hC args c _ hb (h args c Q hs)
    · exact ⟨p, hq, hb'⟩
    · exact ⟨_, hq, hb'⟩
theorem sat_of_eq {α : Type} {t t' : Tree α} (h : t = t') {Q : α → Prop} (hs : t'.sat Q) : t.sat Q := by rw [h]; exact hs
def msgComment : ByteArray := ByteArray.mk #[99, 111, 109, 109, 101, 110, 116, 32, 110, 111, 116, 32, 116, 101, 114, 109, 105, 110, 97, 116, 101, 100]
/-- skipComment. -/
def skipCommentF (src : ByteArray) (st : St) : Bool × St := if (scF src st).1 = true then (true, (scF src st).2) else (false, errorAtF 0 msgComment (scF src st).2)
/-- A function of the scanner alone that answers a bool. -/
noncomputable def onStB (A : Ad) (f : St → Bool × St) (args : List SV) (c : Core (SY A)) : Tree (SV × Core (SY A)) :=
  match args with
  | [.st 0] => .leaf (.val (.bool (f c.st).1), ⟨(f c.st).2, c.bx⟩)
  | _ => .fail
theorem skipComment_ev (A : Ad) (st : St) (bx : List Value) : evFn (cfSC2 A) Tryd.f110 [.st 0] ⟨st, bx⟩ =
  (.req (BlkOk (SY A) Tryd.f110.ntmps 0 (.loop scLoop0) (blkG (in0 A) (scG A)))
    (.test ((scF A.src st).fst)
      (.leaf ((SV.val (Value.bool true), Core.mk (scF A.src st).snd bx)))
      (.leaf ((SV.ff, Core.mk (errorAtF 0 msgComment (scF A.src st).snd) bx))))) := by kernel_rfl
noncomputable def skcS (A : Ad) : Smy (SY A) := ⟨110, #[], true, onStB A (skipCommentF A.src)⟩
theorem skcS_ok (A : Ad) (hA : A.Ok) : (skcS A).Ok := by
  refine ev_okV hA Tryd.func110 (fun args w => by kernel_rfl) (C := cfSC2 A) (cfgL_ok A hA (eSums_ok A hA) Tryd.f110.ntmps [(0, blkG (in0 A) (scG A))] 0) (fun args c Q h => ?_)
  unfold onStB at h
  split at h
  · obtain ⟨st, bx⟩ := c
    refine sat_of_eq (skipComment_ev A st bx) ?_
    have h' : Q (.val (.bool (skipCommentF A.src st).1), ⟨(skipCommentF A.src st).2, bx⟩) := h
    unfold skipCommentF at h'
    refine ⟨sc_blk A hA, fun h1 => ?_, fun h1 => ?_⟩
    · rw [if_pos h1] at h'; exact .inl h'
    · rw [if_neg (by simp [h1])] at h'; exact .inr ⟨_, rfl, h'⟩
  · exact h.elim
/-! Escapes -/
def msgEscChar : ByteArray := ByteArray.mk #[105, 110, 118, 97, 108, 105, 100, 32, 99, 104, 97, 114, 97, 99, 116, 101, 114, 32, 37, 113, 32, 105, 110, 32, 37, 115, 32, 101, 115, 99, 97, 112, 101]
/-- The value of a digit, as the scanner reckons it. -/
def digitOf (b : Int) (c : Int) : Int := if isDecimalF c = true then IntKind.u32.wrap (IntKind.u32.wrap c - 48) else if 97 ≤ lowerF c ∧ lowerF c ≤ 102 then IntKind.u32.wrap (IntKind.u32.wrap (IntKind.u32.wrap (lowerF c) - 97) + 10) else b
def escB (src : ByteArray) (b : Int) (p : St × Int × Int) : Tree (Step (St × Int × Int) (St × Int × Option Bool)) :=
  (.test (decide (p.2.2 > 0))
    (.test (decide (p.1.ch < 0))
      (.leaf (Step.out (p.1, 0, some true)))
      (.test (decide (digitOf b p.1.ch ≥ b))
        (.req (IntKind.i64.wrap b = 2 ∨ IntKind.i64.wrap b = 8 ∨ IntKind.i64.wrap b = 10 ∨ IntKind.i64.wrap b = 16)
          (.leaf (Step.out (error msgEscChar p.1, 0, some false))))
        (.leaf (Step.go (nextch src p.1, IntKind.u32.wrap (IntKind.u32.wrap (p.2.1 * b) + digitOf b p.1.ch), IntKind.i64.wrap (p.2.2 - 1))))))
    (.leaf (Step.out (p.1, p.2.1, none))))
noncomputable def escIn (A : Ad) (b m : Int) (bx : List Value) (p : St × Int × Int) : E (SY A) := ⟨⟨p.1, bx⟩, [(0, .st 0), (6, .val (.int .u32 b)), (7, .val (.int .u32 m)), (8, .val (.int .u32 p.2.1)), (9, .val (.int .i64 p.2.2))]⟩
noncomputable def escX (A : Ad) (b m : Int) (bx : List Value) (q : St × Int × Option Bool) : Ex × E (SY A) := match q with
  | (st, x, some r) => (.ret, ⟨⟨st, bx⟩, [(0, .st 0), (4, .val (.bool r))]⟩)
  | (st, x, none) => (.exit 1, ⟨⟨st, bx⟩, [(0, .st 0), (6, .val (.int .u32 b)), (7, .val (.int .u32 m)), (8, .val (.int .u32 x))]⟩)
def keepE : Ex → List Nat
  | .ret => [0, 4]
  | .normal => [0, 6, 7, 8, 9]
  | _ => [0, 6, 7, 8]
noncomputable abbrev escLoop : Code := loopOf (blkOf (bodyOf Tryd.f107) 1)
theorem esc_ev (A : Ad) (b m : Int) (bx : List Value) (p : St × Int × Int) : (evCode (cfE A Tryd.f107.ntmps) escLoop (escIn A b m bx p)).bind (fun xe => .leaf (xe.1, pare (keepE xe.1) xe.2)) =
  (.test (decide (p.2.2 > 0))
    (.test (decide (p.1.ch < 0))
      (.leaf (escX A b m bx (p.1, 0, some true)))
      (.test (isDecimalF p.1.ch)
        (.test (decide (IntKind.u32.wrap (IntKind.u32.wrap p.1.ch - 48) ≥ b))
          (.req (IntKind.i64.wrap b = 2 ∨ IntKind.i64.wrap b = 8 ∨ IntKind.i64.wrap b = 10 ∨ IntKind.i64.wrap b = 16)
            (.leaf (escX A b m bx (error msgEscChar p.1, 0, some false))))
          (.leaf (.normal, escIn A b m bx (nextch A.src p.1, IntKind.u32.wrap (IntKind.u32.wrap (p.2.1 * b) + IntKind.u32.wrap (IntKind.u32.wrap p.1.ch - 48)), IntKind.i64.wrap (p.2.2 - 1)))))
        (.test (decide (97 ≤ lowerF p.1.ch))
          (.test (decide (lowerF p.1.ch ≤ 102))
            (.test (decide (IntKind.u32.wrap (IntKind.u32.wrap (IntKind.u32.wrap (lowerF p.1.ch) - 97) + 10) ≥ b))
              (.req (IntKind.i64.wrap b = 2 ∨ IntKind.i64.wrap b = 8 ∨ IntKind.i64.wrap b = 10 ∨ IntKind.i64.wrap b = 16)
                (.leaf (escX A b m bx (error msgEscChar p.1, 0, some false))))
              (.leaf (.normal, escIn A b m bx (nextch A.src p.1, IntKind.u32.wrap (IntKind.u32.wrap (p.2.1 * b) + IntKind.u32.wrap (IntKind.u32.wrap (IntKind.u32.wrap (lowerF p.1.ch) - 97) + 10)), IntKind.i64.wrap (p.2.2 - 1)))))
            (.test (decide (b ≥ b))
              (.req (IntKind.i64.wrap b = 2 ∨ IntKind.i64.wrap b = 8 ∨ IntKind.i64.wrap b = 10 ∨ IntKind.i64.wrap b = 16)
                (.leaf (escX A b m bx (error msgEscChar p.1, 0, some false))))
              (.leaf (.normal, escIn A b m bx (nextch A.src p.1, IntKind.u32.wrap (IntKind.u32.wrap (p.2.1 * b) + b), IntKind.i64.wrap (p.2.2 - 1))))))
          (.test (decide (b ≥ b))
            (.req (IntKind.i64.wrap b = 2 ∨ IntKind.i64.wrap b = 8 ∨ IntKind.i64.wrap b = 10 ∨ IntKind.i64.wrap b = 16)
              (.leaf (escX A b m bx (error msgEscChar p.1, 0, some false))))
            (.leaf (.normal, escIn A b m bx (nextch A.src p.1, IntKind.u32.wrap (IntKind.u32.wrap (p.2.1 * b) + b), IntKind.i64.wrap (p.2.2 - 1))))))))
    (.leaf (escX A b m bx (p.1, p.2.1, none)))) := by kernel_rfl
theorem esc_body (A : Ad) (hA : A.Ok) (b m : Int) (bx : List Value) : At (SY A) Tryd.f107.ntmps escLoop (escIn A b m bx) (fun p => (escB A.src b p).bind fun s => .leaf (stepX (escIn A b m bx) (escX A b m bx) s)) := by
  refine At.pared (SLaws A hA) (cfgL_ok A hA (eSums_ok A hA) _ [] 0) keepE (fun p Q hs => ?_)
  refine sat_of_eq (esc_ev A b m bx p) ?_
  unfold escB at hs
  refine ⟨fun h1 => ⟨(hs.1 h1).1, fun h2 => ?_⟩, hs.2⟩
  have h3 := (hs.1 h1).2 h2
  refine ⟨fun h4 => ?_, fun h4 => ⟨fun h5 => ⟨fun h6 => ?_, fun h6 => ?_⟩, fun h5 => ?_⟩⟩
  · rw [show digitOf b p.1.ch = IntKind.u32.wrap (IntKind.u32.wrap p.1.ch - 48) from if_pos h4] at h3; exact h3
  · rw [show digitOf b p.1.ch = _ from (if_neg (by simp [h4])).trans (if_pos ⟨of_decide_eq_true h5, of_decide_eq_true h6⟩)] at h3; exact h3
  · rw [show digitOf b p.1.ch = b from (if_neg (by simp [h4])).trans (if_neg (fun h => of_decide_eq_false h6 h.2))] at h3; exact h3
  · rw [show digitOf b p.1.ch = b from (if_neg (by simp [h4])).trans (if_neg (fun h => of_decide_eq_false h5 h.1))] at h3; exact h3
def escM (p : St × Int × Int) : Nat := p.2.2.toNat
def escI (b : Int) (p : St × Int × Int) : Prop := (b = 8 ∨ b = 16) ∧ p.2.2 ≤ 8
theorem escB_noAny (src : ByteArray) (b : Int) (p : St × Int × Int) : (escB src b p).noAny := ⟨⟨trivial, trivial, trivial⟩, trivial⟩
theorem i64_small {n : Int} (h1 : -9223372036854775808 ≤ n) (h2 : n ≤ 9223372036854775807) : IntKind.i64.wrap n = n := w64_id h1 h2
theorem escB_on (src : ByteArray) (b : Int) (p : St × Int × Int) (hI : escI b p) : (escB src b p).sat fun s => match s with
    | .go a' => escI b a' ∧ escM a' < escM p
    | .out _ => True := by
  obtain ⟨hb, hi⟩ := hI
  refine ⟨fun h1 => ⟨fun _ => trivial, fun _ => ⟨fun _ => ⟨?_, trivial⟩, fun _ => ?_⟩⟩, fun _ => trivial⟩
  · rcases hb with rfl | rfl
    · exact .inr (.inl rfl)
    · exact .inr (.inr (.inr rfl))
  · have h2 : p.2.2 > 0 := of_decide_eq_true h1
    have h3 := i64_small (n := p.2.2 - 1) (by omega) (by omega)
    show ((b = 8 ∨ b = 16) ∧ IntKind.i64.wrap (p.2.2 - 1) ≤ 8) ∧ (IntKind.i64.wrap (p.2.2 - 1)).toNat < p.2.2.toNat
    rw [h3]
    exact ⟨⟨hb, by omega⟩, by omega⟩
def escLF (src : ByteArray) (b : Int) (p : St × Int × Int) : St × Int × Option Bool := runF (escB src b) escM (st0, 0, none) p
theorem esc_at (A : Ad) (hA : A.Ok) : At (SY A) Tryd.f107.ntmps (.block 1 (.loop escLoop)) (fun p : ((St × Int × Int) × Int × List Value) × Int => escIn A p.2 p.1.2.1 p.1.2.2 p.1.1)
    (fun p => .req (escI p.2 p.1.1) (.leaf (outX 1 (escX A p.2 p.1.2.1 p.1.2.2 (escLF A.src p.2 p.1.1))))) := by
  refine At.par (F := fun b (p : (St × Int × Int) × Int × List Value) => escIn A b p.2.1 p.2.2 p.1) (g := fun b (p : (St × Int × Int) × Int × List Value) => .req (escI b p.1) (.leaf (outX 1 (escX A b p.2.1 p.2.2 (escLF A.src b p.1))))) (fun b => ?_)
  exact At.runI (Y := SY A) (id := 1) (κ := Int × List Value) (F := fun k p => escIn A b k.1 k.2 p) (G := fun k q => escX A b k.1 k.2 q) (body := escB A.src b) escM (st0, 0, none) (escI b) (fun k => esc_body A hA b k.1 k.2) (fun k q => by obtain ⟨st, x, _ | r⟩ := q <;> simp [escX]) (escB_noAny A.src b) (escB_on A.src b)
noncomputable def inE (A : Ad) (e : E (SY A)) : Option (((St × Int × Int) × Int × List Value) × Int) := match Ev.look e.tm 0, Ev.look e.tm 6, Ev.look e.tm 7, Ev.look e.tm 8, Ev.look e.tm 9 with
  | .st 0, .val (.int .u32 b), .val (.int .u32 m), .val (.int .u32 x), .val (.int .i64 i) => some (((e.c.st, x, i), m, e.c.bx), b)
  | _, _, _, _, _ => none
theorem inE_ok {A : Ad} (e : E (SY A)) (p : ((St × Int × Int) × Int × List Value) × Int) (h : inE A e = some p) : Lax e (escIn A p.2 p.1.2.1 p.1.2.2 p.1.1) := by
  unfold inE at h
  split at h
  · rename_i h0 h6 h7 h8 h9
    simp only [Option.some.injEq] at h
    subst h
    exact Weak.lax (weak_of rfl ⟨h0, h6, h7, h8, h9, trivial⟩)
  · cases h
noncomputable def escG (A : Ad) (p : ((St × Int × Int) × Int × List Value) × Int) : Tree (Ex × E (SY A)) :=
  .req (escI p.2 p.1.1) (.test (escLF A.src p.2 p.1.1).2.2.isSome
    (.leaf (.ret, ⟨⟨(escLF A.src p.2 p.1.1).1, p.1.2.2⟩, [(0, .st 0), (4, .val (.bool ((escLF A.src p.2 p.1.1).2.2.getD false)))]⟩))
    (.leaf (.normal, ⟨⟨(escLF A.src p.2 p.1.1).1, p.1.2.2⟩, [(0, .st 0), (6, .val (.int .u32 p.2)), (7, .val (.int .u32 p.1.2.1)), (8, .val (.int .u32 (escLF A.src p.2 p.1.1).2.1))]⟩)))
theorem esc_blk (A : Ad) (hA : A.Ok) : BlkOk (SY A) Tryd.f107.ntmps 1 (.loop escLoop) (blkG (inE A) (escG A)) := by
  refine blkG_ok (At.refine (g' := escG A) (esc_at A hA) (fun p Q hs => ⟨p, Lax.refl _, hs.1, ?_⟩)) inE_ok
  have hs := hs.2
  show ∃ e', Lax (outX 1 (escX A p.2 p.1.2.1 p.1.2.2 (escLF A.src p.2 p.1.1))).2 e' ∧ Q ((outX 1 (escX A p.2 p.1.2.1 p.1.2.2 (escLF A.src p.2 p.1.1))).1, e')
  generalize escLF A.src p.2 p.1.1 = q at *
  obtain ⟨st, x, _ | r⟩ := q
  · exact ⟨_, Lax.refl _, hs.2 rfl⟩
  · exact ⟨_, Lax.refl _, hs.1 rfl⟩
noncomputable abbrev cfES (A : Ad) : Cfg (SY A) := cfgL A (eSums A) Tryd.f107.ntmps [(1, blkG (inE A) (escG A))] 0
end Sc
end Go.Proofs.YtogkcphobhhbdaaDoor

/- The scanner's functions over the plain state: escape. -/
namespace Go.Proofs.YtogkcphobhhbdaaDoor
open Go Go.RowKit Go.Lib
namespace Sc
open Ev
set_option maxRecDepth 100000
/-- One of these. -/
def anyT {α : Type} : List Bool → Tree α → Tree α → Tree α
  | [], _, R => R
  | b :: cs, L, R => .test b L (anyT cs L R)
theorem anyT_sat {α : Type} {L R : Tree α} {Q : α → Prop} : ∀ (cs : List Bool), (cs.any id = true → L.sat Q) → (cs.any id = false → R.sat Q) → (anyT cs L R).sat Q
  | [], _, h => h rfl
  | b :: cs, hl, hr => ⟨fun hb => hl (by simp [hb]), fun hb => anyT_sat cs (fun h => hl (by simp only [List.any_cons, id, h, Bool.or_true])) (fun h => hr (by simp only [List.any_cons, id, hb, h, Bool.or_self]))⟩
def msgOct : ByteArray := ByteArray.mk #[111, 99, 116, 97, 108, 32, 101, 115, 99, 97, 112, 101, 32, 118, 97, 108, 117, 101, 32, 37, 100, 32, 62, 32, 50, 53, 53]
def msgPoint : ByteArray := ByteArray.mk #[101, 115, 99, 97, 112, 101, 32, 105, 115, 32, 105, 110, 118, 97, 108, 105, 100, 32, 85, 110, 105, 99, 111, 100, 101, 32, 99, 111, 100, 101, 32, 112, 111, 105, 110, 116, 32, 37, 35, 85]
def msgUnknown : ByteArray := ByteArray.mk #[117, 110, 107, 110, 111, 119, 110, 32, 101, 115, 99, 97, 112, 101]
/-- Behind an escape's digits. -/
def escTail (b m : Int) (r : St × Int × Option Bool) : Bool × St :=
  match r.2.2 with
  | some x => (x, r.1)
  | none =>
    if r.2.1 > m ∧ b = 8 then (false, error msgOct r.1)
    else if r.2.1 > m ∨ (55296 ≤ r.2.1 ∧ r.2.1 < 57344) then (false, error msgPoint r.1)
    else (true, r.1)
noncomputable def escSur (A : Ad) (bx : List Value) (r : St × Int × Option Bool) : Tree (SV × Core (SY A)) :=
  .test (decide (55296 ≤ r.2.1)) (.test (decide (r.2.1 < 57344)) (.leaf (.ff, ⟨error msgPoint r.1, bx⟩)) (.leaf (.tt, ⟨r.1, bx⟩))) (.leaf (.tt, ⟨r.1, bx⟩))
noncomputable def escTailT (A : Ad) (bx : List Value) (b m : Int) (p : St × Int × Int) : Tree (SV × Core (SY A)) :=
  .req (BlkOk (SY A) Tryd.f107.ntmps 1 (.loop escLoop) (blkG (inE A) (escG A))) (.req (escI b p) (.test (escLF A.src b p).2.2.isSome
    (.leaf (.val (.bool ((escLF A.src b p).2.2.getD false)), ⟨(escLF A.src b p).1, bx⟩))
    (.test (decide ((escLF A.src b p).2.1 > m))
      (.test (b == 8) (.leaf (.ff, ⟨error msgOct (escLF A.src b p).1, bx⟩)) (.test (decide ((escLF A.src b p).2.1 > m)) (.leaf (.ff, ⟨error msgPoint (escLF A.src b p).1, bx⟩)) (escSur A bx (escLF A.src b p))))
      (.test (decide ((escLF A.src b p).2.1 > m)) (.leaf (.ff, ⟨error msgPoint (escLF A.src b p).1, bx⟩)) (escSur A bx (escLF A.src b p))))))
noncomputable def escT (A : Ad) (q : Int) (st : St) (bx : List Value) : Tree (SV × Core (SY A)) :=
  anyT [st.ch == q, st.ch == 97, st.ch == 98, st.ch == 102, st.ch == 110, st.ch == 114, st.ch == 116, st.ch == 118, st.ch == 92] (.leaf (.tt, ⟨nextch A.src st, bx⟩))
    (anyT [st.ch == 48, st.ch == 49, st.ch == 50, st.ch == 51, st.ch == 52, st.ch == 53, st.ch == 54, st.ch == 55] (escTailT A bx 8 255 (st, 0, 3))
      (.test (st.ch == 120) (escTailT A bx 16 255 (nextch A.src st, 0, 2))
        (.test (st.ch == 117) (escTailT A bx 16 1114111 (nextch A.src st, 0, 4))
          (.test (st.ch == 85) (escTailT A bx 16 1114111 (nextch A.src st, 0, 8))
            (.test (decide (st.ch < 0)) (.leaf (.tt, ⟨st, bx⟩)) (.leaf (.ff, ⟨error msgUnknown st, bx⟩)))))))
theorem escape_ev (A : Ad) (st : St) (bx : List Value) (q : Int) : evFn (cfES A) Tryd.f107 [.st 0, .val (.int .i32 q)] ⟨st, bx⟩ = escT A q st bx := by kernel_rfl
/-- escape. -/
def escapeF (src : ByteArray) (q : Int) (st : St) : Bool × St :=
  if [st.ch == q, st.ch == 97, st.ch == 98, st.ch == 102, st.ch == 110, st.ch == 114, st.ch == 116, st.ch == 118, st.ch == 92].any id = true then (true, nextch src st)
  else if [st.ch == 48, st.ch == 49, st.ch == 50, st.ch == 51, st.ch == 52, st.ch == 53, st.ch == 54, st.ch == 55].any id = true then escTail 8 255 (escLF src 8 (st, 0, 3))
  else if st.ch = 120 then escTail 16 255 (escLF src 16 (nextch src st, 0, 2))
  else if st.ch = 117 then escTail 16 1114111 (escLF src 16 (nextch src st, 0, 4))
  else if st.ch = 85 then escTail 16 1114111 (escLF src 16 (nextch src st, 0, 8))
  else if st.ch < 0 then (true, st) else (false, error msgUnknown st)
/-- The answer, plainly. -/
def ansB {A : Ad} (bx : List Value) (Q : SV × Core (SY A) → Prop) (r : Bool × St) : Prop := Q (.val (.bool r.1), ⟨r.2, bx⟩)
def Ans {A : Ad} (Q : SV × Core (SY A) → Prop) (p : SV × Core (SY A)) : Prop := Q p ∨ ∃ u, toVal p.1 = some u ∧ Q (.val u, p.2)
theorem escTailT_sat {A : Ad} (hA : A.Ok) {bx : List Value} {b m : Int} {p : St × Int × Int} {Q : SV × Core (SY A) → Prop} (hI : escI b p) (h : ansB bx Q (escTail b m (escLF A.src b p))) : (escTailT A bx b m p).sat (Ans Q) := by
  refine ⟨esc_blk A hA, hI, ?_⟩
  unfold escSur
  generalize escLF A.src b p = r at *
  obtain ⟨st, x, _ | y⟩ := r
  · have sur : ¬ x > m → (escSur A bx (st, x, none)).sat (Ans Q) := fun hm => by
      have h1 : (55296 ≤ x ∧ x < 57344) → Q (.val (.bool false), ⟨error msgPoint st, bx⟩) := fun hs => by
        have h2 : escTail b m (st, x, none) = (false, error msgPoint st) := by
          show (if x > m ∧ b = 8 then _ else if x > m ∨ (55296 ≤ x ∧ x < 57344) then _ else _) = _
          rw [if_neg (fun h => hm h.1), if_pos (.inr hs)]
        rw [h2] at h; exact h
      have h3 : ¬ (55296 ≤ x ∧ x < 57344) → Q (.val (.bool true), ⟨st, bx⟩) := fun hs => by
        have h2 : escTail b m (st, x, none) = (true, st) := by
          show (if x > m ∧ b = 8 then _ else if x > m ∨ (55296 ≤ x ∧ x < 57344) then _ else _) = _
          rw [if_neg (fun h => hm h.1), if_neg (fun h => h.elim hm hs)]
        rw [h2] at h; exact h
      exact ⟨fun h4 => ⟨fun h5 => .inr ⟨_, rfl, h1 ⟨of_decide_eq_true h4, of_decide_eq_true h5⟩⟩, fun h5 => .inr ⟨_, rfl, h3 (fun h => of_decide_eq_false h5 h.2)⟩⟩, fun h4 => .inr ⟨_, rfl, h3 (fun h => of_decide_eq_false h4 h.1)⟩⟩
    refine ⟨fun h => (by cases h), fun _ => ⟨fun h1 => ⟨fun h2 => .inr ⟨_, rfl, ?_⟩, fun h2 => ⟨fun _ => .inr ⟨_, rfl, ?_⟩, fun h3 => ?_⟩⟩, fun h1 => ⟨fun h2 => ?_, fun _ => sur (of_decide_eq_false h1)⟩⟩⟩
    · have h3 : escTail b m (st, x, none) = (false, error msgOct st) := by
        show (if x > m ∧ b = 8 then _ else if x > m ∨ (55296 ≤ x ∧ x < 57344) then _ else _) = _
        rw [if_pos ⟨of_decide_eq_true h1, by simpa using h2⟩]
      rw [h3] at h; exact h
    · have h3 : escTail b m (st, x, none) = (false, error msgPoint st) := by
        show (if x > m ∧ b = 8 then _ else if x > m ∨ (55296 ≤ x ∧ x < 57344) then _ else _) = _
        rw [if_neg (fun h => by simp [h.2] at h2), if_pos (.inl (of_decide_eq_true h1))]
      rw [h3] at h; exact h
    · exact absurd (of_decide_eq_true h1) (of_decide_eq_false h3)
    · exact absurd (of_decide_eq_true h2) (of_decide_eq_false h1)
  · exact ⟨fun _ => .inl h, fun h => by cases h⟩
noncomputable def escpG (A : Ad) (args : List SV) (c : Core (SY A)) : Tree (SV × Core (SY A)) :=
  match args with
  | [.st 0, .val (.int .i32 q)] => .leaf (.val (.bool (escapeF A.src q c.st).1), ⟨(escapeF A.src q c.st).2, c.bx⟩)
  | _ => .fail
noncomputable def escpS (A : Ad) : Smy (SY A) := ⟨107, #[], true, escpG A⟩
theorem escpS_ok (A : Ad) (hA : A.Ok) : (escpS A).Ok := by
  refine ev_okV hA Tryd.func107 (fun args w => by kernel_rfl) (C := cfES A) (cfgL_ok A hA (eSums_ok A hA) Tryd.f107.ntmps [(1, blkG (inE A) (escG A))] 0) (fun args c Q h => ?_)
  unfold escpG at h
  split at h
  · rename_i q
    obtain ⟨st, bx⟩ := c
    refine sat_of_eq (escape_ev A st bx q) ?_
    have h' : ansB bx Q (escapeF A.src q st) := h
    unfold escapeF at h'
    refine anyT_sat _ (fun h1 => ?_) (fun h1 => anyT_sat _ (fun h2 => ?_) (fun h2 => ⟨fun h3 => ?_, fun h3 => ⟨fun h4 => ?_, fun h4 => ⟨fun h5 => ?_, fun h5 => ⟨fun h6 => ?_, fun h6 => ?_⟩⟩⟩⟩))
    · rw [if_pos h1] at h'; exact .inr ⟨_, rfl, h'⟩
    all_goals rw [if_neg (by rw [h1]; exact fun h => by cases h)] at h'
    · rw [if_pos h2] at h'; exact escTailT_sat hA ⟨.inl rfl, by show (3 : Int) ≤ 8; decide⟩ h'
    all_goals rw [if_neg (by rw [h2]; exact fun h => by cases h)] at h'
    · rw [if_pos (by simpa using h3)] at h'; exact escTailT_sat hA ⟨.inr rfl, by show (2 : Int) ≤ 8; decide⟩ h'
    all_goals rw [if_neg (by simpa using h3)] at h'
    · rw [if_pos (by simpa using h4)] at h'; exact escTailT_sat hA ⟨.inr rfl, by show (4 : Int) ≤ 8; decide⟩ h'
    all_goals rw [if_neg (by simpa using h4)] at h'
    · rw [if_pos (by simpa using h5)] at h'; exact escTailT_sat hA ⟨.inr rfl, by show (8 : Int) ≤ 8; decide⟩ h'
    all_goals rw [if_neg (by simpa using h5)] at h'
    · rw [if_pos (of_decide_eq_true h6)] at h'; exact .inr ⟨_, rfl, h'⟩
    · rw [if_neg (of_decide_eq_false h6)] at h'; exact .inr ⟨_, rfl, h'⟩
  · exact h.elim
noncomputable def fSums (A : Ad) : List (Nat × Smy (SY A)) := (107, escpS A) :: (110, skcS A) :: (108, skipLineS A) :: eSums A
theorem fSums_ok (A : Ad) (hA : A.Ok) : SumsOk A (fSums A) := by
  refine SumsOk.cons ?_ (escpS_ok A hA) rfl rfl (fun h => by cases h)
  refine SumsOk.cons ?_ (skcS_ok A hA) rfl rfl (fun h => by cases h)
  refine SumsOk.cons ?_ (skipLineS_ok A hA) rfl rfl (fun h => by cases h)
  exact eSums_ok A hA
noncomputable abbrev cfF (A : Ad) (N : Nat) : Cfg (SY A) := cfgL A (fSums A) N [] 0
end Sc
end Go.Proofs.YtogkcphobhhbdaaDoor
