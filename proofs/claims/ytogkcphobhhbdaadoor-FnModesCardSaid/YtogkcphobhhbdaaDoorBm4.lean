/- The scanner of the program told as plain functions, part 4: texts joined by a program (wip/tools/merge.py). -/
import Derived.Test.YtogkcphobhhbdaaDoorBm3
import Derived.Deep.RegionHeld3
import Derived.Deep.AppendLies
import Derived.Test.YtogkcphobhhbdaaDoorRows
import Derived.PinnedBridge
import Derived.Lib.LaidRTabT
import Derived.Lib.LaidU8T
import Derived.Stop.LaidErr
import Derived.Lay
import Derived.LaidMore
import Derived.ProofKit
import Derived.OpenShut
import Derived.OpenVars
import Derived.SevenTiedAt
import Derived.Stop.Joined
set_option linter.unusedVariables false
set_option linter.unusedSimpArgs false
/- The scanner's functions over the plain state: what a pass of next leaves. -/
namespace Go.Proofs.YtogkcphobhhbdaaDoor
open Go Go.RowKit Go.Lib
namespace Sc
open Ev
set_option maxRecDepth 100000

theorem On.nl {src : ByteArray} {a b : St} (h : On src a b) : b.nlsemi = a.nlsemi := by rw [h.keep]
theorem pfxGo_nl {src s : ByteArray} {φ ψ : St → St} (hφ : ∀ st, (φ st).nlsemi = st.nlsemi) (hψ : ∀ st, (ψ st).nlsemi = st.nlsemi) (st : St) : (pfxGo src s φ ψ st).nlsemi = st.nlsemi := by
  unfold pfxGo
  split
  · rw [hψ]; exact (pfxF_on _ _ _).nl
  · rw [hφ]; exact (pfxF_on _ _ _).nl
theorem lcSkip_nl (src : ByteArray) (st : St) : (lcSkip src st).nlsemi = st.nlsemi := (on_skip src notLine (stop st)).nl
theorem fcSkip_nl (src : ByteArray) (st : St) : (fcSkip src st).nlsemi = st.nlsemi := (skipCommentF_on src (stop st)).nl
theorem lineComment_nl (src : ByteArray) (st : St) : (lineCommentF src st).nlsemi = st.nlsemi := by
  unfold lineCommentF
  split
  · exact (lcTxt_on _ _).nl
  · split
    · exact lcSkip_nl _ _
    · exact pfxGo_nl (lcSkip_nl src) (fun st => (lcTxt_on src st).nl) st
theorem fullComment_nl (src : ByteArray) (st : St) : (fullCommentF src st).nlsemi = st.nlsemi := by
  unfold fullCommentF
  split
  · exact (fcTxt_on _ _).nl
  · split
    · exact fcSkip_nl _ _
    · exact pfxGo_nl (fcSkip_nl src) (fun st => (fcTxt_on src st).nl) st
def SwN (st : St) : Fin → Prop
  | .redo s => s.nlsemi = st.nlsemi
  | _ => True
theorem sw_allN (src : ByteArray) (nl : Bool) (st : St) : (swT src nl st).all (SwN st) := by
  have r1 : SwN st (.redo (lineCommentF src (nextch src (nextch src st)))) := lineComment_nl _ _
  have r2 : SwN st (.redo (fullCommentF src (nextch src (nextch src st)))) := fullComment_nl _ _
  have r3 : SwN st (.redo (nextch src (error msgChar st))) := rfl
  have ta : ∀ {b : Bool} {t e : Tree Fin}, t.all (SwN st) → e.all (SwN st) → (Tree.test b t e).all (SwN st) := fun h1 h2 => ⟨fun _ => h1, fun _ => h2⟩
  unfold swT
  refine ta (ta trivial trivial) (ta trivial (ta trivial (ta trivial (ta trivial (ta trivial (ta trivial (ta trivial (ta trivial (ta trivial (ta trivial (ta trivial ?_)))))))))))
  refine ta trivial (ta trivial (ta trivial (ta trivial (ta trivial (ta trivial (ta trivial (ta trivial (ta trivial (ta trivial (ta trivial ?_))))))))))
  refine ta (ta trivial trivial) (ta (ta trivial (ta (ta trivial trivial) trivial)) (ta (ta trivial trivial) (ta (ta trivial trivial) (ta (ta trivial trivial) ?_))))
  refine ta (ta r1 (ta (ta (ta trivial r2) r2) trivial)) ?_
  refine ta trivial (ta (ta trivial (ta trivial trivial)) (ta (ta trivial trivial) (ta trivial ?_)))
  refine ta (ta trivial (ta trivial (ta trivial trivial))) (ta (ta trivial (ta trivial trivial)) (ta (ta trivial trivial) (ta (ta trivial trivial) (ta trivial ?_))))
  exact r3

/-- Ahead of where it was. -/
structure Aw (src : ByteArray) (st s : St) : Prop where
  mode : s.mode = st.mode
  notes : ∃ l, s.notes = st.notes ++ l
  left : left src s ≤ left src st
  fwd : st.p - st.chw ≤ s.p - s.chw
  kp : src.size ≤ 2048 → Kp st → Kp s ∧ Lx st s
theorem Fw.aw {src : ByteArray} {a b : St} (h : Fw src a b) (hp : Pos src a) : Aw src a b := ⟨h.mode, h.notes, h.left, (h.pos hp).2, h.kp hp⟩
theorem Aw.trans {src : ByteArray} {a b c : St} (h : Aw src a b) (h' : Aw src b c) : Aw src a c := by
  obtain ⟨l, hl⟩ := h.notes
  obtain ⟨l', hl'⟩ := h'.notes
  exact ⟨h'.mode.trans h.mode, ⟨l ++ l', by rw [hl', hl, List.append_assoc]⟩, Nat.le_trans h'.left h.left, Nat.le_trans h.fwd h'.fwd, fun hs hk => ⟨(h'.kp hs (h.kp hs hk).1).1, (h.kp hs hk).2.trans (h'.kp hs (h.kp hs hk).1).2⟩⟩
/-- The token's place is one between. -/
def TokAt (st s : St) : Prop := Kp st → ∃ s0, Kp s0 ∧ s0.p ≤ 2048 ∧ Lx st s0 ∧ Lx s0 s ∧ s.line = u64 (1 + s0.line0) ∧ s.col = u64 (1 + s0.col0)
/-- Within the source, or at the beginning, where a blank stands for what was not read. -/
def Pos0 (src : ByteArray) (st : St) : Prop := Pos src st ∨ (st.ch = 32 ∧ st.p ≤ src.size)
theorem blanks_pos {src : ByteArray} {nl : Bool} {st : St} (h : Pos0 src st) : Pos src (skip src (cBlank nl) (stop st)) ∧ Aw src st (skip src (cBlank nl) (stop st)) ∧ (skip src (cBlank nl) (stop st)).nlsemi = st.nlsemi := by
  refine ⟨?_, ?_, (on_skip src (cBlank nl) (stop st)).nl⟩
  all_goals
    have f1 : Fw src st (skip src (cBlank nl) (stop st)) := (fw_stop src st).trans (on_skip _ _ _).fw
    rcases h with h | ⟨h1, h2⟩
  · exact (f1.pos h).1
  · have hc : cBlank nl (stop st).ch = true := by show cBlank nl st.ch = true; rw [h1]; cases nl <;> rfl
    rw [skip_eq src (cBlank nl) (by cases nl <;> rfl), if_pos hc]
    exact ((on_skip src (cBlank nl) (nextch src (stop st))).pos (nextch_pos (src := src) (st := stop st) h2).1).1
  · exact f1.aw h
  · have hc : cBlank nl (stop st).ch = true := by show cBlank nl st.ch = true; rw [h1]; cases nl <;> rfl
    have np := nextch_pos (src := src) (st := stop st) h2
    refine ⟨f1.mode, f1.notes, f1.left, ?_, fun hs hk => ?_⟩
    rotate_left
    · rw [skip_eq src (cBlank nl) (by cases nl <;> rfl), if_pos hc]
      have k1 := nextch_kp (src := src) (st := stop st) hs h2 (fun e => by have e : st.ch = 10 := e; rw [h1] at e; cases e) (hk.same rfl rfl rfl rfl)
      have k2 := (on_skip src (cBlank nl) (nextch src (stop st))).kp np.1 hs k1.1
      exact ⟨k2.1, Lx.trans (b := stop st) (Lx.refl st) (k1.2.trans k2.2)⟩
    rw [skip_eq src (cBlank nl) (by cases nl <;> rfl), if_pos hc]
    have := ((on_skip src (cBlank nl) (nextch src (stop st))).pos np.1).2
    have hp : (stop st).p = st.p := rfl
    rw [hp] at np
    have := np.2
    omega
def SwR (src : ByteArray) (nl : Bool) (st : St) : Fin → Prop
  | .done s _ => Pos src s ∧ Aw src st s ∧ (left src s < left src st ∨ (s.nlsemi = st.nlsemi ∧ (nl = false → s.tok = 1))) ∧ TokAt st s
  | .redo s => Pos src s ∧ Aw src st s ∧ left src s < left src st ∧ s.nlsemi = st.nlsemi
  | .asg s => Pos src s ∧ Aw src st s ∧ left src s < left src st ∧ TokAt st s

theorem nxSt_off {src : ByteArray} {bl : Bool} {st : St} (h : Pos src st) (hs : src.size ≤ 2048) : Off src (nxSt bl st) where
  b := rfl
  le := Nat.le_refl _
  w := h.w
  n := h.n
  sz := hs
  col := by
    have : off (nxSt bl st) = 0 := Nat.sub_self _
    rw [this]
    show u64 (u64 (1 + st.col0) - u64 (1 + st.col0)) = 0
    rw [Int.sub_self]; rfl
  pos := h.pos
theorem nxSt_pos {src : ByteArray} {st : St} (bl : Bool) (h : Pos src st) : Pos src (nxSt bl st) := h.same rfl rfl rfl
theorem nxSt_aw (src : ByteArray) (bl : Bool) (st : St) : Aw src st (nxSt bl st) := ⟨rfl, ⟨[], by simp [nxSt, start]⟩, Nat.le_refl _, Nat.le_refl _, fun _ hk => ⟨hk.same rfl rfl rfl rfl, .inr ⟨rfl, Int.le_refl _⟩⟩⟩
theorem atId_same (f : Bool) (st : St) : (atIdF f st).2.p = st.p ∧ (atIdF f st).2.chw = st.chw ∧ (atIdF f st).2.b = st.b ∧ (atIdF f st).2.col0 = st.col0 ∧ (atIdF f st).2.col = st.col := by
  unfold atIdF
  split
  · exact ⟨rfl, rfl, rfl, rfl, rfl⟩
  · split
    · show (if f = true then _ else _ : St).p = _ ∧ (if f = true then _ else _ : St).chw = _ ∧ (if f = true then _ else _ : St).b = _ ∧ (if f = true then _ else _ : St).col0 = _ ∧ (if f = true then _ else _ : St).col = _
      split <;> exact ⟨rfl, rfl, rfl, rfl, rfl⟩
    · split <;> exact ⟨rfl, rfl, rfl, rfl, rfl⟩
theorem atId_off {src : ByteArray} {f : Bool} {st : St} (h : Off src st) : Off src (atIdF f st).2 := by
  obtain ⟨h1, h2, h3, h4, h5⟩ := atId_same f st
  exact (h.same h1 h2 h3 h4 h5 (atIdF_ch f st)).1
/-- From the character on which a token begins. -/
def tailT (src : ByteArray) (nl : Bool) (l c : Int) (st : St) : Tree Fin := hdT src (fun s => Fin.done s []) (swT src nl) (nxSt (decide (u64 (1 + st.line0) > l) || c == 1) st)
/-- A pass, whole. -/
def passT (src : ByteArray) (nl : Bool) (st : St) : Tree Fin := tailT src nl (u64 (1 + st.line0)) (u64 (1 + st.col0)) (skip src (cBlank nl) (stop st))
theorem hd_satQ {src : ByteArray} {nl : Bool} {st : St} (hP : Pos src st) (hO : Off src st) (hb : st.b = some (st.p - st.chw)) : (hdT src (fun s => Fin.done s []) (swT src nl) st).sat (fun f => SwQ src nl st f ∧ SwN st f) := by
  have oI := atIdF_on src true st
  have sI := atId_same true st
  have w : ∀ f, SwQ src nl (atIdF true st).2 f ∧ SwN (atIdF true st).2 f → SwQ src nl st f ∧ SwN st f := fun f h => by
    obtain ⟨h, hn⟩ := h
    have hl := oI.left
    cases f with
    | done s bx => exact ⟨⟨oI.fw.trans h.1, h.2.imp (fun h => Nat.lt_of_lt_of_le h hl) (fun h => ⟨h.1.trans oI.nl, h.2⟩)⟩, trivial⟩
    | redo s => exact ⟨⟨oI.fw.trans h.1, Nat.lt_of_lt_of_le h.2 hl⟩, (show s.nlsemi = _ from hn).trans oI.nl⟩
    | asg s => exact ⟨⟨oI.fw.trans h.1, Nat.lt_of_lt_of_le h.2 hl⟩, trivial⟩
  have idn : ∀ s : St, On src st s → ¬ s.ch = -1 → SwQ src nl st (.done (identF src (nextch src s)) []) ∧ SwN st (.done (identF src (nextch src s)) []) := fun s ho hne => by
    have hl := ho.left
    have h1 := nextch_left src s hne
    have f1 := ident_fw (src := src) (nextch_chOk src s)
    have hl2 := f1.left
    exact ⟨⟨(ho.trans (on_next _ _)).fw.trans f1, .inl (by omega)⟩, trivial⟩
  refine ⟨fun h1 => ⟨⟨nextch_chOk _ _, hO.b⟩, idn st (On.refl _ _) (fun e => by rw [e] at h1; exact absurd h1 (by decide))⟩, fun _ => ⟨fun h1 => ⟨⟨by have := hP.lo; omega, by have := hP.hi; omega⟩, fun h2 => ⟨⟨nextch_chOk _ _, by rw [oI.b]; exact hO.b⟩, idn _ oI (by rw [atIdF_ch]; exact atIdF_ne h2)⟩, fun _ => ?_⟩, fun _ => ?_⟩⟩
  · exact sat_mono (sat_all (sw_satQ (atId_off hO) (oI.pos hP).1 (by rw [sI.2.2.1, sI.1, sI.2.1]; exact hb)) (sw_allN _ _ _)) w
  · exact sat_all (sw_satQ hO hP hb) (sw_allN _ _ _)
theorem pass_satR {src : ByteArray} {nl : Bool} {st : St} (h : Pos0 src st) (hs : src.size ≤ 2048) : (passT src nl st).sat (SwR src nl st) := by
  obtain ⟨p1, a1, n1⟩ := blanks_pos (nl := nl) h
  have key : ∀ bl : Bool, (hdT src (fun s => Fin.done s []) (swT src nl) (nxSt bl (skip src (cBlank nl) (stop st)))).sat (SwR src nl st) := fun bl => by
    refine sat_mono (hd_satQ (nxSt_pos bl p1) (nxSt_off p1 hs) rfl) (fun f hf => ?_)
    obtain ⟨hf, hn⟩ := hf
    have f2 := nxSt_aw src bl (skip src (cBlank nl) (stop st))
    have p2 := nxSt_pos bl p1
    have l1 := a1.left
    have l2 := f2.left
    have a2 := a1.trans f2
    have fin : ∀ {s}, Fw src (nxSt bl (skip src (cBlank nl) (stop st))) s → Pos src s ∧ Aw src st s := fun hf => ⟨(hf.pos p2).1, a2.trans (hf.aw p2)⟩
    have tk : ∀ {s}, Fw src (nxSt bl (skip src (cBlank nl) (stop st))) s → TokAt st s := fun hf hk => ⟨nxSt bl (skip src (cBlank nl) (stop st)), (a2.kp hs hk).1, Nat.le_trans p2.n hs, (a2.kp hs hk).2, (hf.kp p2 hs (a2.kp hs hk).1).2, hf.lc.1, hf.lc.2⟩
    cases f with
    | done s bx => exact ⟨(fin hf.1).1, (fin hf.1).2, hf.2.imp (fun h => by omega) (fun h => ⟨h.1.trans n1, h.2⟩), tk hf.1⟩
    | redo s => exact ⟨(fin hf.1).1, (fin hf.1).2, by have := hf.2; omega, (show s.nlsemi = _ from hn).trans n1⟩
    | asg s => exact ⟨(fin hf.1).1, (fin hf.1).2, by have := hf.2; omega, tk hf.1⟩
  exact key _
end Sc
end Go.Proofs.YtogkcphobhhbdaaDoor

/- The scanner's functions over the plain state: next. -/
namespace Go.Proofs.YtogkcphobhhbdaaDoor
open Go Go.RowKit Go.Lib
namespace Sc
open Ev
set_option maxRecDepth 100000

theorem hd_cut {A : Ad} {nl : Bool} {l c : Int} {Q : Ex × E (SY A) → Prop} {st : St} (h : ((hdT A.src (fun s => Fin.done s []) (swT A.src nl) st).bind fun f => .leaf (finX A nl f)).sat Q) :
    (hdT A.src (fun s => (Ex.ret, (⟨⟨s, []⟩, []⟩ : E (SY A)))) (fun s => .leaf (.normal, nxIn A nl l c s)) st).sat fun xe => match xe.1 with
      | .normal => ∃ q : Bool × Int × Int × St, Lax xe.2 (nxIn A q.1 q.2.1 q.2.2.1 q.2.2.2) ∧ ((swT A.src q.1 q.2.2.2).bind fun f => .leaf (finX A q.1 f)).sat Q
      | _ => Q xe := by
  refine ⟨fun h1 => h.1 h1, fun h1 => ⟨fun h2 => ⟨((h.2 h1).1 h2).1, fun h3 => (((h.2 h1).1 h2).2).1 h3, fun h3 => ⟨(nl, l, c, _), Lax.refl _, (((h.2 h1).1 h2).2).2 h3⟩⟩, fun h2 => ⟨(nl, l, c, _), Lax.refl _, (h.2 h1).2 h2⟩⟩⟩
theorem sw_at (A : Ad) (hA : A.Ok) : At (SY A) nxN (cutTail 8 (nxRest 0)) (fun q : Bool × Int × Int × St => nxIn A q.1 q.2.1 q.2.2.1 q.2.2.2) (fun q => (swT A.src q.1 q.2.2.2).bind fun f => .leaf (finX A q.1 f)) :=
  At.same (SLaws A hA) (C := cfN A) (cfgL_ok A hA (iSums_ok A hA) nxN [] 0) keepN (fun q => sw_ev A q.1 q.2.1 q.2.2.1 q.2.2.2)
theorem cut48 : cutTail 4 (cutTail 4 (nxRest 0)) = cutTail 8 (nxRest 0) := by kernel_rfl
theorem tail_at (A : Ad) (hA : A.Ok) : At (SY A) nxN (cutTail 4 (nxRest 0)) (fun q : Bool × Int × Int × St => nxIn A q.1 q.2.1 q.2.2.1 q.2.2.2) (fun q => (tailT A.src q.1 q.2.1 q.2.2.1 q.2.2.2).bind fun f => .leaf (finX A q.1 f)) := by
  refine At.cutP (SLaws A hA) (C := cfN A) (cfgL_ok A hA (iSums_ok A hA) nxN [] 0) 4 (by kernel_rfl) (F' := fun q : Bool × Int × Int × St => nxIn A q.1 q.2.1 q.2.2.1 q.2.2.2) (gb := fun q => (swT A.src q.1 q.2.2.2).bind fun f => .leaf (finX A q.1 f)) (by rw [cut48]; exact sw_at A hA) keepN (fun q Q hs => ?_)
  obtain ⟨nl, l, c, st⟩ := q
  refine sat_of_eq (hd_ev A nl l c st) ⟨fun h => hd_cut ?_, fun h => hd_cut ?_⟩
  · have hs : ((tailT A.src nl l c st).bind fun f => .leaf (finX A nl f)).sat Q := hs
    unfold tailT at hs
    rw [h, Bool.true_or] at hs
    exact hs
  · have hs : ((tailT A.src nl l c st).bind fun f => .leaf (finX A nl f)).sat Q := hs
    unfold tailT at hs
    rw [h, Bool.false_or] at hs
    exact hs
theorem cut3 : cutTail 3 (nxRest 0) = .seq (.block 0 (.loop nxLoop)) (cutTail 4 (nxRest 0)) := by kernel_rfl
theorem loop_at (A : Ad) (hA : A.Ok) : At (SY A) nxN (cutTail 3 (nxRest 0)) (fun q : Bool × Int × Int × St => nxIn A q.1 q.2.1 q.2.2.1 q.2.2.2) (fun q => (tailT A.src q.1 q.2.1 q.2.2.1 (skip A.src (cBlank q.1) q.2.2.2)).bind fun f => .leaf (finX A q.1 f)) := by
  rw [cut3]
  have h1 := At.par (F := fun (nl : Bool) (p : St × List Value × Int × Int) => Es A p.1 p.2.1 [(0, .st 0), (2, .val (.bool nl)), (3, .val (.int .u64 p.2.2.1)), (4, .val (.int .u64 p.2.2.2))]) (blank_at A hA)
  have h2 : At (SY A) nxN (.block 0 (.loop nxLoop)) (fun q : Bool × Int × Int × St => nxIn A q.1 q.2.1 q.2.2.1 q.2.2.2) (fun q => .leaf (.normal, nxIn A q.1 q.2.1 q.2.2.1 (skip A.src (cBlank q.1) q.2.2.2))) :=
    ⟨fun q => h1.wp ((q.2.2.2, [], q.2.1, q.2.2.1), q.1), fun q => h1.mono ((q.2.2.2, [], q.2.1, q.2.2.1), q.1)⟩
  exact At.seq h2 (tail_at A hA) (fun q Q hs => ⟨(q.1, q.2.1, q.2.2.1, skip A.src (cBlank q.1) q.2.2.2), Lax.refl _, hs⟩)
noncomputable def nx0 (A : Ad) (nl : Bool) (st : St) : E (SY A) := ⟨⟨st, []⟩, [(0, .st 0), (2, .val (.bool nl))]⟩
theorem npos_ev (A : Ad) (nl : Bool) (st : St) : (evCode (cfN A) (cutHead 3 (nxRest 0)) (nx0 A nl st)).bind (fun xe => .leaf (xe.1, pare (keepN xe.1) xe.2)) =
  .leaf (.normal, ⟨⟨stop st, []⟩, [(0, .st 0), (2, .val (.bool nl)), (3, .val #[Value.int IntKind.u64 (u64 (1 + st.line0)), Value.int IntKind.u64 (u64 (1 + st.col0))][0]), (4, .val #[Value.int IntKind.u64 (u64 (1 + st.line0)), Value.int IntKind.u64 (u64 (1 + st.col0))][1])]⟩) := by kernel_rfl
theorem pass_at (A : Ad) (hA : A.Ok) : At (SY A) nxN (nxRest 0) (fun q : Bool × St => nx0 A q.1 q.2) (fun q => (passT A.src q.1 q.2).bind fun f => .leaf (finX A q.1 f)) := by
  refine At.cutP (SLaws A hA) (C := cfN A) (cfgL_ok A hA (iSums_ok A hA) nxN [] 0) 3 (by kernel_rfl) (loop_at A hA) keepN (fun q Q hs => ?_)
  exact sat_of_eq (npos_ev A q.1 q.2) ⟨(q.1, u64 (1 + q.2.line0), u64 (1 + q.2.col0), stop q.2), Lax.refl _, hs⟩
/-- An operator, and its assignment. -/
noncomputable def asgX (A : Ad) (st : St) : Tree (Ex × E (SY A)) := .test (st.ch == 61) (.leaf (.ret, ⟨⟨tk 5 (nextch A.src st), []⟩, []⟩)) (.leaf (.normal, ⟨⟨tk 4 st, []⟩, []⟩))
theorem asg_ev (A : Ad) (st : St) : (evCode (cfN A) (nxRest 1) ⟨⟨st, []⟩, [(0, .st 0)]⟩).bind (fun xe => .leaf (xe.1, pare [] xe.2)) = asgX A st := by kernel_rfl
theorem asg_at (A : Ad) (hA : A.Ok) : At (SY A) nxN (nxRest 1) (fun st => at0 A (st, [])) (asgX A) :=
  At.same (SLaws A hA) (C := cfN A) (cfgL_ok A hA (iSums_ok A hA) nxN [] 0) (fun _ => []) (asg_ev A)

/-! Passes till a token is told. -/
def asgF (src : ByteArray) (st : St) : St := if st.ch = 61 then tk 5 (nextch src st) else tk 4 st
def finS (src : ByteArray) : Fin → Step St (St × List Value)
  | .done s bx => .out (s, bx)
  | .redo s => .go s
  | .asg s => .out (asgF src s, [])
def nextB (src : ByteArray) (nl : Bool) (st : St) : Tree (Step St (St × List Value)) := (passT src nl st).bind fun f => .leaf (finS src f)
/-- next. -/
def nextF (src : ByteArray) (st : St) : St × List Value := runF (nextB src st.nlsemi) (left src) (st0, []) { st with nlsemi := false }

noncomputable def scF0 (A : Ad) (l : Nat) (p : Nat × Bool × St) : E (SY A) := match l with
  | 0 => nx0 A p.2.1 p.2.2
  | _ => at0 A (p.2.2, [])
noncomputable def scGp (A : Ad) (l : Nat) (p : Nat × Bool × St) : Tree (Ex × E (SY A)) := match l with
  | 0 => (passT A.src p.2.1 p.2.2).bind fun f => .leaf (finX A p.2.1 f)
  | 1 => asgX A p.2.2
  | _ => .fail

/-- Either way out of the function. -/
noncomputable def endT (A : Ad) (o : St × List Value) : Tree (Ex × E (SY A)) := .any (.leaf (.ret, ⟨⟨o.1, o.2⟩, []⟩)) (.leaf (.normal, ⟨⟨o.1, o.2⟩, []⟩))
noncomputable def scH (A : Ad) (l : Nat) (p : Nat × Bool × St) : Tree (Ex × E (SY A)) := match l with
  | 0 => (Ev.runT (nextB A.src p.2.1) p.1 p.2.2).bind (endT A)
  | 1 => endT A (asgF A.src p.2.2, [])
  | _ => .fail
def scM (l : Nat) (p : Nat × Bool × St) : Nat := match l with
  | 0 => p.1 + 1
  | _ => 0
theorem scope_step {A : Ad} {nl : Bool} {n : Nat} {st : St} {Q : Ex × E (SY A) → Prop} (h : (scH A 0 (n + 1, nl, st)).sat Q) : ((passT A.src nl st).bind fun f => .leaf (finX A nl f)).sat fun xe => match xe.1 with
      | .goto l' => ∃ p', Lax xe.2 (scF0 A l' p') ∧ scM l' p' < n + 2 ∧ (scH A l' p').sat Q
      | _ => Q xe := by
  simp only [scH, Ev.runT, nextB, bind_assoc, sat_bind] at h
  rw [sat_bind]
  refine sat_mono h (fun f hf => ?_)
  cases f with
  | done s bx => exact hf.1
  | redo s => exact ⟨(n, nl, s), Lax.refl _, Nat.lt_succ_self _, by rw [scH, sat_bind]; exact hf⟩
  | asg s => exact ⟨(n, nl, s), Lax.refl _, Nat.succ_pos _, hf⟩
theorem asg_sat {A : Ad} {st : St} {Q : Ex × E (SY A) → Prop} (h : (endT A (asgF A.src st, [])).sat Q) : (asgX A st).sat Q := by
  unfold asgF at h
  refine ⟨fun h1 => ?_, fun h1 => ?_⟩
  · rw [if_pos (by simpa using h1)] at h; exact h.1
  · rw [if_neg (by simpa using h1)] at h; exact h.2
theorem scope_mono {A : Ad} (hA : A.Ok) : ∀ (n : Nat) (nl : Bool) (st : St) (Q : Ex × E (SY A) → Prop), (SY A).big st → (scH A 0 (n, nl, st)).sat Q → ∃ q, Q q ∧ (SY A).big q.2.c.st
  | 0, _, _, _, _, h => h.elim
  | n + 1, nl, st, Q, hb, h => by
    obtain ⟨⟨x, e⟩, hq, hb'⟩ := (pass_at A hA).mono (nl, st) _ hb (scope_step h)
    obtain ⟨⟩ | ⟨i⟩ | ⟨l⟩ | ⟨⟩ := x
    · exact ⟨_, hq, hb'⟩
    · exact ⟨_, hq, hb'⟩
    · obtain ⟨⟨m, nl', s⟩, hl, hm, hs⟩ := hq
      have hb2 : (SY A).big (scF0 A l (m, nl', s)).c.st := by rw [hl.1]; exact hb'
      match l, hl, hm, hs, hb2 with
      | 0, hl, hm, hs, hb2 => exact scope_mono hA m nl' s Q hb2 hs
      | 1, hl, hm, hs, hb2 => exact (asg_at A hA).mono s Q hb2 (asg_sat hs)
      | _ + 2, hl, hm, hs, hb2 => exact hs.elim
    · exact ⟨_, hq, hb'⟩
  termination_by n => n
  decreasing_by
    have : m + 1 < n + 2 := hm
    omega

theorem lab0 : findLabel nxBody 0 = some (nxRest 0) := by kernel_rfl
theorem lab1 : findLabel nxBody 1 = some (nxRest 1) := by kernel_rfl
theorem cut32 : cutTail 2 (cutTail 3 nxBody) = cutTail 3 (nxRest 0) := by kernel_rfl
theorem first_ev (A : Ad) (st : St) : (evCode (cfN A) (cutHead 3 nxBody) (at0 A (st, []))).bind (fun xe => .leaf (xe.1, pare [0, 2] xe.2)) = .leaf (.normal, nx0 A st.nlsemi { st with nlsemi := false }) := by kernel_rfl
theorem npos2_ev (A : Ad) (nl : Bool) (st : St) : (evCode (cfN A) (cutHead 2 (cutTail 3 nxBody)) (nx0 A nl st)).bind (fun xe => .leaf (xe.1, pare (keepN xe.1) xe.2)) =
  .leaf (.normal, ⟨⟨stop st, []⟩, [(0, .st 0), (2, .val (.bool nl)), (3, .val #[Value.int IntKind.u64 (u64 (1 + st.line0)), Value.int IntKind.u64 (u64 (1 + st.col0))][0]), (4, .val #[Value.int IntKind.u64 (u64 (1 + st.line0)), Value.int IntKind.u64 (u64 (1 + st.col0))][1])]⟩) := by kernel_rfl
theorem pass2_at (A : Ad) (hA : A.Ok) : At (SY A) nxN (cutTail 3 nxBody) (fun q : Bool × St => nx0 A q.1 q.2) (fun q => (passT A.src q.1 q.2).bind fun f => .leaf (finX A q.1 f)) := by
  refine At.cutP (SLaws A hA) (C := cfN A) (cfgL_ok A hA (iSums_ok A hA) nxN [] 0) 2 (by kernel_rfl) (by rw [cut32]; exact loop_at A hA) keepN (fun q Q hs => ?_)
  exact sat_of_eq (npos2_ev A q.1 q.2) ⟨(q.1, u64 (1 + q.2.line0), u64 (1 + q.2.col0), stop q.2), Lax.refl _, hs⟩
theorem first_at (A : Ad) (hA : A.Ok) : At (SY A) nxN nxBody (fun st => at0 A (st, [])) (fun st => (passT A.src st.nlsemi { st with nlsemi := false }).bind fun f => .leaf (finX A st.nlsemi f)) := by
  refine At.cutP (SLaws A hA) (C := cfN A) (cfgL_ok A hA (iSums_ok A hA) nxN [] 0) 3 (by kernel_rfl) (pass2_at A hA) (fun _ => [0, 2]) (fun st Q hs => ?_)
  exact sat_of_eq (first_ev A st) ⟨(st.nlsemi, { st with nlsemi := false }), Lax.refl _, hs⟩

/-! A pass meets what is asked, and the passes end. -/
theorem hd_noAny {src : ByteArray} {nl : Bool} {st : St} : (hdT src (fun s => Fin.done s []) (swT src nl) st).noAny := ⟨trivial, ⟨trivial, sw_noAny _ _ _⟩, sw_noAny _ _ _⟩
theorem nextB_noAny (src : ByteArray) (nl : Bool) (st : St) : (nextB src nl st).noAny := noAny_bind hd_noAny (fun _ => trivial)
theorem nextB_sat {src : ByteArray} {nl : Bool} {st : St} (hI : Pos0 src st ∧ src.size ≤ 2048) : (nextB src nl st).sat fun s => match s with
    | .go a' => (Pos0 src a' ∧ src.size ≤ 2048) ∧ left src a' < left src st
    | .out _ => True := by
  unfold nextB
  rw [sat_bind]
  refine sat_mono (pass_satR hI.1 hI.2) (fun f hf => ?_)
  cases f with
  | done s bx => trivial
  | redo s => exact ⟨⟨.inl hf.1, hI.2⟩, hf.2.2.1⟩
  | asg s => trivial
theorem pos0_nl {src : ByteArray} {st : St} (h : Pos0 src st) (b : Bool) : Pos0 src { st with nlsemi := b } := h.imp (fun h => h.same rfl rfl rfl) (fun h => h)
/-- What next leaves: further on, or at the end. -/
theorem nextF_sat {src : ByteArray} {st : St} (h : Pos0 src st) (hs : src.size ≤ 2048) : Pos src (nextF src st).1 ∧ Aw src st (nextF src st).1 ∧
    ((nextF src st).1.tok = 1 ∨ left src (nextF src st).1 < left src st ∨ (st.nlsemi = true ∧ (nextF src st).1.nlsemi = false)) ∧ TokAt st (nextF src st).1 := by
  unfold nextF
  refine runF_sat (body := nextB src st.nlsemi) (μ := left src) (fun a => Pos0 src a ∧ Aw src st a ∧ a.nlsemi = false) (P := fun r : St × List Value => Pos src r.1 ∧ Aw src st r.1 ∧ (r.1.tok = 1 ∨ left src r.1 < left src st ∨ (st.nlsemi = true ∧ r.1.nlsemi = false)) ∧ TokAt st r.1) (fun a ha => ?_) { st with nlsemi := false } ⟨pos0_nl h false, ⟨rfl, ⟨[], by simp⟩, Nat.le_refl _, Nat.le_refl _, fun _ hk => ⟨hk.same rfl rfl rfl rfl, .inr ⟨rfl, Int.le_refl _⟩⟩⟩, rfl⟩
  obtain ⟨h1, h2, h3⟩ := ha
  unfold nextB
  rw [sat_bind]
  refine sat_mono (pass_satR h1 hs) (fun f hf => ?_)
  have hl := h2.left
  have tk : ∀ {s}, TokAt a s → TokAt st s := fun ht hk => by
    obtain ⟨s0, g1, gp, g2, g3⟩ := ht (h2.kp hs hk).1
    exact ⟨s0, g1, gp, (h2.kp hs hk).2.trans g2, g3⟩
  cases f with
  | done s bx =>
    refine ⟨hf.1, h2.trans hf.2.1, ?_, tk hf.2.2.2⟩
    rcases hf.2.2.1 with h4 | ⟨h4, h5⟩
    · exact .inr (.inl (by show left src s < _; omega))
    · cases hn : st.nlsemi with
      | false => exact .inl (h5 hn)
      | true => exact .inr (.inr ⟨rfl, h4.trans h3⟩)
  | redo s => exact ⟨⟨.inl hf.1, h2.trans hf.2.1, hf.2.2.2.trans h3⟩, hf.2.2.1⟩
  | asg s =>
    have f1 : Fw src s (asgF src s) := by
      unfold asgF
      split
      · exact fw_tk 5 (on_next _ _).fw
      · exact fw_tk 4 (Fw.refl _ _)
    have hl2 := f1.left
    have hl3 := hf.2.2.1
    refine ⟨(f1.pos hf.1).1, (h2.trans hf.2.1).trans (f1.aw hf.1), .inr (.inl (by show left src (asgF src s) < _; omega)), tk (fun hk => ?_)⟩
    obtain ⟨s0, g1, gp, g2, g3, g4, g5⟩ := hf.2.2.2 hk
    have ks := (hf.2.1.kp hs hk).1
    exact ⟨s0, g1, gp, g2, g3.trans (f1.kp hf.1 hs ks).2, f1.lc.1.trans g4, f1.lc.2.trans g5⟩
noncomputable def nxG (A : Ad) (st : St) : Tree (Ex × E (SY A)) := .req (Pos0 A.src st ∧ A.src.size ≤ 2048) (endT A (nextF A.src st))
theorem nx_run {A : Ad} {st : St} {Q : Ex × E (SY A) → Prop} (h : (nxG A st).sat Q) : (scH A 0 (left A.src st + 1, st.nlsemi, { st with nlsemi := false })).sat Q := by
  rw [scH, sat_bind]
  have hP : Pos0 A.src { st with nlsemi := false } := pos0_nl h.1.1 false
  exact sat_of_get (d := (st0, [])) (safe_of_sat (run_noAny (nextB_noAny A.src st.nlsemi) _ _) (run_sat (P := fun _ => True) (left A.src) (fun s => Pos0 A.src s ∧ A.src.size ≤ 2048) (fun a ha => sat_mono (nextB_sat ha) (fun s hs => by cases s with
    | go a' => exact hs
    | out b => trivial)) _ _ ⟨hP, h.1.2⟩ (Nat.lt_succ_self _))) h.2
theorem scope_at (A : Ad) (hA : A.Ok) : At (SY A) nxN (.scope nxBody) (fun st => at0 A (st, [])) (nxG A) := by
  refine At.scope (F := scF0 A) (gp := scGp A) scM (h := scH A) (rest := nxRest) (first_at A hA) (fun l => ?_) (fun l p Q hs => ?_) (fun l p Q hb hs => ?_) (fun st Q hs => ?_)
  · match l with
    | 0 => exact ⟨fun p => (pass_at A hA).wp (p.2.1, p.2.2), fun p => (pass_at A hA).mono (p.2.1, p.2.2)⟩
    | 1 => exact ⟨fun p => (asg_at A hA).wp p.2.2, fun p => (asg_at A hA).mono p.2.2⟩
    | _ + 2 => exact ⟨fun p bl a w Q hI h => h.elim, fun p Q hb h => h.elim⟩
  · obtain ⟨n, nl, st⟩ := p
    match l, n, hs with
    | 0, 0, hs => exact hs.elim
    | 0, n + 1, hs => exact ⟨lab0, scope_step hs⟩
    | 1, n, hs =>
      refine ⟨lab1, ?_⟩
      have h1 : (endT A (asgF A.src st, [])).sat Q := hs
      refine sat_mono (asg_sat (Q := fun xe => Q xe ∧ ∀ l, xe.1 ≠ .goto l) ⟨⟨h1.1, fun l e => by cases e⟩, ⟨h1.2, fun l e => by cases e⟩⟩) (fun xe hx => ?_)
      obtain ⟨x, e⟩ := xe
      obtain ⟨⟩ | ⟨i⟩ | ⟨l⟩ | ⟨⟩ := x
      · exact hx.1
      · exact hx.1
      · exact absurd rfl (hx.2 l)
      · exact hx.1
    | _ + 2, n, hs => exact hs.elim
  · obtain ⟨n, nl, st⟩ := p
    match l, hb, hs with
    | 0, hb, hs => exact scope_mono hA n nl st Q hb hs
    | 1, hb, hs => exact (asg_at A hA).mono st Q hb (asg_sat hs)
    | _ + 2, hb, hs => exact hs.elim
  · refine sat_mono (scope_step (nx_run hs)) (fun xe hx => ?_)
    obtain ⟨x, e⟩ := xe
    obtain ⟨⟩ | ⟨i⟩ | ⟨l⟩ | ⟨⟩ := x
    · exact hx
    · exact hx
    · obtain ⟨p', h1, _, h3⟩ := hx; exact ⟨p', h1, h3⟩
    · exact hx
theorem next_body : (Tryd.f52).body = some (.scope nxBody) := by kernel_rfl
noncomputable def nxtG (A : Ad) (args : List SV) (c : Core (SY A)) : Tree (SV × Core (SY A)) :=
  match args, c.bx with
  | [.st 0], [] => .req (Pos0 A.src c.st ∧ A.src.size ≤ 2048) (.leaf (unit, ⟨(nextF A.src c.st).1, (nextF A.src c.st).2⟩))
  | _, _ => .fail
noncomputable def nxtS (A : Ad) : Smy (SY A) := ⟨52, #[], true, nxtG A⟩
theorem next_res : (Tryd.f52).results.toList = [] := by kernel_rfl
theorem nx_end {A : Ad} {st : St} {Q : SV × Core (SY A) → Prop} (h : Pos0 A.src st ∧ A.src.size ≤ 2048) (hq : Q (unit, ⟨(nextF A.src st).1, (nextF A.src st).2⟩)) : (nxG A st).sat fun xe => (evEnd Tryd.f52 xe).sat Q := by
  refine ⟨h, ?_, ?_⟩
  · show (match evRes [] (Tryd.f52).results.toList with
      | some r => Tree.leaf (r, (⟨(nextF A.src st).1, (nextF A.src st).2⟩ : Core (SY A)))
      | none => .fail).sat Q
    rw [next_res]; exact hq
  · show (match evRes [] (Tryd.f52).results.toList with
      | some r => Tree.leaf (r, (⟨(nextF A.src st).1, (nextF A.src st).2⟩ : Core (SY A)))
      | none => .fail).sat Q
    rw [next_res]; exact hq
theorem nxtS_ok (A : Ad) (hA : A.Ok) : (nxtS A).Ok := by
  refine ⟨fun args w => by kernel_rfl, At.fn (Y := SY A) Tryd.func52 next_body (N := nxN) rfl (π := St) (arg := fun _ => [.st 0]) (core := fun st => ⟨st, []⟩) (fun _ => by show 1 ≤ nxN; decide) (scope_at A hA) (fun args c Q h => ?_), At.fn_mono (fn := Tryd.f52) (scope_at A hA) (fun args c Q h => ?_)⟩
  · change (nxtG A args c).sat Q at h
    unfold nxtG at h
    split at h
    · rename_i hbx
      obtain ⟨st, bx⟩ := c
      have hbx' : bx = [] := hbx
      subst hbx'
      exact ⟨st, rfl, rfl, nx_end h.1 h.2⟩
    · exact h.elim
  · change (nxtG A args c).sat Q at h
    unfold nxtG at h
    split at h
    · rename_i hbx
      obtain ⟨st, bx⟩ := c
      have hbx' : bx = [] := hbx
      subst hbx'
      exact ⟨st, rfl, nx_end h.1 h.2⟩
    · exact h.elim
end Sc
end Go.Proofs.YtogkcphobhhbdaaDoor

/- The scanner's beginning: scanner.init, bytes.NewReader. -/
namespace Go.Proofs.YtogkcphobhhbdaaDoor
open Go Go.RowKit Go.Lib
namespace Sc
set_option maxRecDepth 100000

theorem cell_of_block' {w : World} {b o : Nat} {c : Array Value} {t : TypeId} {f : Nat × Nat} (h : w.heap[b]? = some (.cells c t f)) : w.cell? ⟨b, o, none⟩ = c[o]? := by
  simp [World.cell?, h]
theorem initW_size (w : World) (s rd e : Nat) : (initW w s rd e).heap.size = w.heap.size + 1 := by simp [initW, srcW]
theorem srcW_size (w : World) (s rd e : Nat) : (srcW w s rd e).heap.size = w.heap.size := by simp [srcW]
/-- The block once source.init is through. -/
def srcCells (buf rd e : Nat) : Array Value := #[.iface 91 (.pointer (some ⟨rd, 0, none⟩)), .func (.func 51) #[] #[.pointer (some ⟨e, 0, none⟩)], .slice (some ⟨buf, 0, none⟩) 4096 4096, .nilIface, .int .i64 (-1), .int .i64 0, .int .i64 0, .int .u64 0, .int .u64 0, .int .i32 32, .int .i64 0,
  .int .u64 0, .bool false, .int .u64 0, .int .u64 0, .bool false, .int .u64 0, .string ByteArray.empty, .bool false, .int .u8 0, .int .u64 0, .int .i64 0]
theorem srcW_block {w : World} {s rd e : Nat} (hs : w.heap[s]? = some (.cells zeroCells 89 (0, 0))) : (srcW w s rd e).heap[s]? = some (.cells (srcCells w.heap.size rd e) 89 (0, 0)) := by
  unfold srcW
  refine Eq.trans (block_setCell _ (block_setCell _ (block_setCell _ (block_setCell _ (block_setCell _ (block_setCell _ (block_setCell _ (block_setCell _ (block_setCell _ (block_setCell _ (block_setCell _ hs))))))))))) ?_
  exact congrArg (fun c => some (Obj.cells c 89 (0, 0))) (by kernel_rfl)
theorem srcW_other {w : World} {s rd e k : Nat} (h : k ≠ s) : (srcW w s rd e).heap[k]? = w.heap[k]? := by
  unfold srcW
  repeat rw [Below.heap_setCell _ _ _ _ h]
theorem initW_block {w : World} {s rd e : Nat} (hs : w.heap[s]? = some (.cells zeroCells 89 (0, 0))) : (initW w s rd e).heap[s]? = some (.cells (srcCells w.heap.size rd e) 89 (0, 0)) := by
  have hlt : s < w.heap.size := (Array.getElem?_eq_some_iff.1 hs).1
  unfold initW
  rw [Below.heap_alloc _ _ _ (by rw [srcW_size]; exact hlt)]
  exact srcW_block hs
def iniW (w : World) (s rd e : Nat) (m : Int) : World := ((initW w s rd e).setCell ⟨s, 11, none⟩ (.int .u64 m)).setCell ⟨s, 12, none⟩ (.bool false)
theorem init_walk (w : World) (s rd e : Nat) (m : Int) (hs : w.heap[s]? = some (.cells zeroCells 89 (0, 0))) :
    Calls Tryd.prog 49 #[.pointer (some ⟨s, 0, none⟩), .iface 91 (.pointer (some ⟨rd, 0, none⟩)), .func (.func 51) #[] #[.pointer (some ⟨e, 0, none⟩)], .int .u64 m] w fun en w' => en = .returned (.tuple #[]) ∧ w' = iniW w s rd e m := by
  have hb := initW_block (rd := rd) (e := e) hs
  have c11 := cell_of_block hb (o := 11) (v := .int .u64 0) rfl
  have c12 := cell_of_block hb (o := 12) (v := .bool false) rfl
  have fr : ∀ o, (initW w s rd e).frozen? ⟨s, o, none⟩ = false := fun o => free_of_block hb
  have H := srcInit_walk w s rd e hs
  clear hb hs
  go_enter Tryd.func49, Tryd.ntmps49
  go_wp2_with (go_at_call 68; refine H.mono ?_; rintro en w' ⟨rfl, rfl⟩)
  go_end0
  exact ⟨rfl, rfl⟩
theorem newReader_walk (w : World) (v : Value) (hv : v.oneCell' = true) (hsl : ∃ a n c, v = .slice a n c) :
    Calls Tryd.prog 50 #[v] w fun en w' => en = .returned (.pointer (some ⟨w.heap.size, 0, none⟩)) ∧ w' = w.alloc (.cells #[v, .int .i64 0, .int .i64 (-1)] 107) := by
  obtain ⟨a, n, c, rfl⟩ := hsl
  go_enter Tryd.func50, Tryd.ntmps50
  go_wp2
  go_ret
  exact ⟨rfl, rfl⟩
end Sc
end Go.Proofs.YtogkcphobhhbdaaDoor

/- The scanner at its beginning, as the plain state has it. -/
namespace Go.Proofs.YtogkcphobhhbdaaDoor
open Go Go.RowKit Go.Lib
namespace Sc
set_option maxRecDepth 100000

theorem alloc_at (w : World) (o : Obj) : (w.alloc o).heap[w.heap.size]? = some o := by
  show (w.heap.push o)[w.heap.size]? = _
  simp
def buf0 : ByteArray := ⟨(Array.replicate 4096 (0 : UInt8)).setIfInBounds 0 128⟩
theorem buf0_size : buf0.size = 4096 := by simp [buf0, ByteArray.size]
theorem zbuf_get (i : Nat) (h : i < 4096) : zbuf[i]? = some (.int .u8 0) := by
  simp [zbuf, madeCells, h, Nat.mod_one]
theorem buf0_cells : byteCells buf0 = zbuf.setIfInBounds 0 (.int .u8 128) := by
  apply Array.ext_getElem?
  intro i
  have hz : zbuf.size = 4096 := size_madeCells _ _
  simp only [byteCells, buf0, Array.getElem?_map, Array.getElem?_setIfInBounds, Array.size_replicate, hz]
  by_cases hi : 0 = i
  · subst hi; simp
  · rw [if_neg hi, if_neg hi, Array.getElem?_replicate]
    by_cases h : i < 4096
    · rw [if_pos h, zbuf_get i h]; rfl
    · rw [if_neg h, Array.getElem?_eq_none (by omega)]; rfl
/-- The state ahead of the first reading. -/
def stI (m : Int) : St := ⟨true, 0, 0, none, 0, 0, 32, m, false, 0, 0, false, 0, ByteArray.empty, false, 0, 0, 0, []⟩
def rawI (m : Int) : Raw := ⟨buf0, false, -1, 0, 0, 0, 0, 32, 0, m, false, 0, 0, false, 0, ByteArray.empty, false, 0, 0, 0, 0, []⟩
def adOf (w0 w : World) (sb scap : Nat) (ea : Addr) (src : ByteArray) : Ad := ⟨w0, w.heap.size + 1, w.heap.size + 3, w.heap.size + 2, w.heap.size, sb, w.heap.size + 4, scap, ea, src⟩
/-- The world once scanner.init is through. -/
def w1I (w : World) : World := w.alloc (.cells #[.slice none 0 0] 52)
def w2I (w : World) : World := (w1I w).alloc (.cells zeroCells 89)
def w3I (w : World) (sb n scap : Nat) : World := (w2I w).alloc (.cells #[.slice (some ⟨sb, 0, none⟩) n scap, .int .i64 0, .int .i64 (-1)] 107)
def w4I (w : World) (sb n scap : Nat) (m : Int) : World := iniW (w3I w sb n scap) (w.heap.size + 1) (w.heap.size + 2) w.heap.size m
structure Start (w0 w : World) (sb scap : Nat) (ea : Addr) (src : ByteArray) : Prop where
  glob : Glob w0 ea
  n : src.size ≤ 2048
  below : Below w0.heap.size w0 w
  lo : w0.heap.size ≤ sb
  hi : sb < w.heap.size
  src : ∀ j, j < src.size → w.cell? ⟨sb, j, none⟩ = some (.int .u8 (src.get! j).toNat)
theorem start_ok {w0 w : World} {sb scap : Nat} {ea : Addr} {src : ByteArray} (h : Start w0 w sb scap ea src) : (adOf w0 w sb scap ea src).Ok := by
  have := h.below.size; have := h.lo; have := h.hi
  refine ⟨h.glob, h.n, h.lo, ?_, ?_, ?_, ?_, h.hi, ?_, ?_, ?_, ?_⟩ <;> simp only [adOf] <;> omega
theorem w3I_size (w : World) (sb n scap : Nat) : (w3I w sb n scap).heap.size = w.heap.size + 3 := by simp [w3I, w2I, w1I]
theorem w4I_size (w : World) (sb n scap : Nat) (m : Int) : (w4I w sb n scap m).heap.size = w.heap.size + 4 := by simp [w4I, iniW, initW_size, w3I_size]
theorem w3I_s (w : World) (sb n scap : Nat) : (w3I w sb n scap).heap[w.heap.size + 1]? = some (.cells zeroCells 89 (0, 0)) := by
  unfold w3I
  rw [Below.heap_alloc _ _ _ (by simp [w2I, w1I])]
  have e : (w1I w).heap.size = w.heap.size + 1 := by simp [w1I]
  unfold w2I
  rw [← e]
  exact alloc_at _ _
theorem w3I_old (w : World) (sb n scap k : Nat) (h : k < w.heap.size) : (w3I w sb n scap).heap[k]? = w.heap[k]? := by
  unfold w3I w2I w1I
  rw [Below.heap_alloc _ _ _ (by simp; omega), Below.heap_alloc _ _ _ (by simp; omega), Below.heap_alloc _ _ _ h]
theorem w3I_e (w : World) (sb n scap : Nat) : (w3I w sb n scap).heap[w.heap.size]? = some (.cells #[.slice none 0 0] 52 (0, 0)) := by
  unfold w3I w2I w1I
  rw [Below.heap_alloc _ _ _ (by simp; omega), Below.heap_alloc _ _ _ (by simp)]
  exact alloc_at _ _
theorem w3I_rd (w : World) (sb n scap : Nat) : (w3I w sb n scap).heap[w.heap.size + 2]? = some (.cells #[.slice (some ⟨sb, 0, none⟩) n scap, .int .i64 0, .int .i64 (-1)] 107 (0, 0)) := by
  have e : (w2I w).heap.size = w.heap.size + 2 := by simp [w2I, w1I]
  unfold w3I
  rw [← e]
  exact alloc_at _ _
theorem w4I_other {w : World} {sb n scap k : Nat} {m : Int} (h : k ≠ w.heap.size + 1) (hk : k < w.heap.size + 3) : (w4I w sb n scap m).heap[k]? = (w3I w sb n scap).heap[k]? := by
  unfold w4I iniW initW
  rw [Below.heap_setCell _ _ _ _ h, Below.heap_setCell _ _ _ _ h, Below.heap_alloc _ _ _ (by rw [srcW_size, w3I_size]; exact hk), srcW_other h]
theorem w4I_buf {w : World} {sb n scap : Nat} {m : Int} : (w4I w sb n scap m).heap[w.heap.size + 3]? = some (.cells (byteCells buf0) 5 (0, 0)) := by
  have e : (srcW (w3I w sb n scap) (w.heap.size + 1) (w.heap.size + 2) w.heap.size).heap.size = w.heap.size + 3 := by rw [srcW_size, w3I_size]
  unfold w4I iniW initW
  rw [Below.heap_setCell _ _ _ _ (show w.heap.size + 3 ≠ w.heap.size + 1 by omega), Below.heap_setCell _ _ _ _ (show w.heap.size + 3 ≠ w.heap.size + 1 by omega), ← e, buf0_cells]
  exact alloc_at _ _
theorem w4I_s {w : World} {sb n scap : Nat} {m : Int} {w0 : World} {ea : Addr} {src : ByteArray} : (w4I w sb n scap m).heap[w.heap.size + 1]? = some (.cells (rawCells (adOf w0 w sb scap ea src) (rawI m)) 89 (0, 0)) := by
  have h := initW_block (rd := w.heap.size + 2) (e := w.heap.size) (w3I_s w sb n scap)
  rw [w3I_size] at h
  unfold w4I iniW
  refine Eq.trans (block_setCell _ (block_setCell _ h)) ?_
  exact congrArg (fun c => some (Obj.cells c 89 (0, 0))) (by kernel_rfl)

theorem srcW_below {B s rd e : Nat} {a w : World} (h : Below B a w) (hs : B ≤ s) : Below B a (srcW w s rd e) := by
  unfold srcW
  have step : ∀ {w : World} (o : Nat) (v : Value), Below B a w → Below B a (w.setCell ⟨s, o, none⟩ v) := fun o v h => Below.setCell h hs v
  exact step _ _ (step _ _ (step _ _ (step _ _ (step _ _ (step _ _ (step _ _ (step _ _ (step _ _ (step _ _ (step _ _ h))))))))))
theorem w4I_below {w0 w : World} {sb scap : Nat} {ea : Addr} {src : ByteArray} (h : Start w0 w sb scap ea src) (m : Int) : Below w0.heap.size w0 (w4I w sb src.size scap m) := by
  have hb := h.below.size
  have hs : w0.heap.size ≤ w.heap.size + 1 := by omega
  have b3 : Below w0.heap.size w0 (w3I w sb src.size scap) := Below.alloc (Below.alloc (Below.alloc h.below hb _) (by simp; omega) _) (by simp; omega) _
  have b4 := Below.alloc (srcW_below (rd := w.heap.size + 2) (e := w.heap.size) b3 hs) (by rw [srcW_size, w3I_size]; omega) (.cells (zbuf.setIfInBounds 0 (.int .u8 128)) 5)
  unfold w4I iniW initW
  exact Below.setCell (Below.setCell b4 (show w0.heap.size ≤ (⟨w.heap.size + 1, 11, none⟩ : Addr).block from hs) _) (show w0.heap.size ≤ (⟨w.heap.size + 1, 12, none⟩ : Addr).block from hs) _
theorem start_inv {w0 w : World} {sb scap : Nat} {ea : Addr} {src : ByteArray} (h : Start w0 w sb scap ea src) (m : Int) : SInv (adOf w0 w sb scap ea src) (stI m) (w4I w sb src.size scap m) := by
  have hb := h.below.size; have hlo := h.lo; have hhi := h.hi
  have old : ∀ k, k < w.heap.size → (w4I w sb src.size scap m).heap[k]? = w.heap[k]? := fun k hk => by
    rw [w4I_other (by omega) (by omega), w3I_old _ _ _ _ _ hk]
  refine ⟨rawI m, ⟨start_ok h, ?_, w4I_s, w4I_buf, buf0_size, ?_, ?_, ⟨.slice none 0 0, ?_, ?_⟩, ?_⟩, ⟨⟨0, 0, 0, ?_, rfl, Nat.le_refl _, rfl⟩, fun _ => ⟨rfl, rfl⟩, (fun e => by cases e), Nat.zero_le _, rfl⟩⟩
  · exact w4I_below h m
  · show (w4I w sb src.size scap m).heap[w.heap.size + 2]? = _
    rw [w4I_other (by omega) (by omega), w3I_rd]; rfl
  · intro j hj
    show (w4I w sb src.size scap m).cell? ⟨sb, j, none⟩ = _
    rw [World.cell?_of_block (w := w) (a := ⟨sb, j, none⟩) (old sb hhi)]
    exact h.src j hj
  · show (w4I w sb src.size scap m).heap[w.heap.size]? = _
    rw [w4I_other (by omega) (by omega), w3I_e]
  · exact ⟨rfl, .inl ⟨rfl, rfl⟩⟩
  · show w.heap.size + 4 ≤ _
    rw [w4I_size]; exact Nat.le_refl _
  · exact ⟨rfl, rfl, Nat.le_refl _, rfl, buf0_size, fun j hj => absurd hj (Nat.not_lt_zero _), by kernel_rfl, .inr rfl, (fun e => by cases e), h.n⟩
end Sc
end Go.Proofs.YtogkcphobhhbdaaDoor

/- The scanner's functions over the plain state: which token, which operator. -/
namespace Go.Proofs.YtogkcphobhhbdaaDoor
open Go Go.RowKit Go.Lib
namespace Sc
open Ev
set_option maxRecDepth 100000

theorem On.op {src : ByteArray} {a b : St} (h : On src a b) : b.op = a.op := by rw [h.keep]
theorem pfxGo_op {src s : ByteArray} {φ ψ : St → St} (hφ : ∀ st, (φ st).op = st.op) (hψ : ∀ st, (ψ st).op = st.op) (st : St) : (pfxGo src s φ ψ st).op = st.op := by
  unfold pfxGo
  split
  · rw [hψ]; exact (pfxF_on _ _ _).op
  · rw [hφ]; exact (pfxF_on _ _ _).op
theorem lcSkip_op (src : ByteArray) (st : St) : (lcSkip src st).op = st.op := (on_skip src notLine (stop st)).op
theorem fcSkip_op (src : ByteArray) (st : St) : (fcSkip src st).op = st.op := (skipCommentF_on src (stop st)).op
theorem lineComment_op (src : ByteArray) (st : St) : (lineCommentF src st).op = st.op := by
  unfold lineCommentF
  split
  · exact (lcTxt_on _ _).op
  · split
    · exact lcSkip_op _ _
    · exact pfxGo_op (lcSkip_op src) (fun st => (lcTxt_on src st).op) st
theorem fullComment_op (src : ByteArray) (st : St) : (fullCommentF src st).op = st.op := by
  unfold fullCommentF
  split
  · exact (fcTxt_on _ _).op
  · split
    · exact fcSkip_op _ _
    · exact pfxGo_op (fcSkip_op src) (fun st => (fcTxt_on src st).op) st
/-- The token and the operator are such as have a name. -/
def Rk (s : St) : Prop := (1 ≤ s.tok ∧ s.tok ≤ 46) ∧ (0 ≤ s.op ∧ s.op ≤ 23)
def Rop (s : St) : Prop := 0 ≤ s.op ∧ s.op ≤ 23
theorem Rop.of {a b : St} (h : Rop a) (e : b.op = a.op) : Rop b := by unfold Rop; rw [e]; exact h
theorem ident_rk {src : ByteArray} {st : St} (hc : chOk st) (h : Rop st) : Rk (identF src st) := by
  have e : ∀ s, s.op = st.op → Rk (identEnd src s) := fun s hs => by
    unfold identEnd
    split
    · rename_i hk
      have := kwOf_in _ hk.2.1
      exact ⟨⟨by show (1 : Int) ≤ (kwOf _ : Nat); omega, by show ((kwOf _ : Nat) : Int) ≤ 46; omega⟩, h.of hs⟩
    · exact ⟨⟨by show (1 : Int) ≤ 2; decide, by show (2 : Int) ≤ 46; decide⟩, h.of hs⟩
  unfold identF
  split
  · exact e _ ((on_skip src cId st).trans (idBF_on src _ (skip_chOk hc)).1).op
  · exact e _ (on_skip src cId st).op
theorem p5T_op {src : ByteArray} {st : St} {s : NumS} (h : s.st.op = st.op) : (p5T src s).all (fun s => s.st.tok = 3 ∧ s.st.op = st.op) :=
  ⟨fun _ => ⟨fun _ => ⟨fun _ => ⟨rfl, h⟩, fun _ => ⟨rfl, h⟩⟩, fun _ => ⟨rfl, h⟩⟩, fun _ => ⟨rfl, h⟩⟩
theorem p6T_op {st : St} {s : NumS} (h : s.st.tok = 3 ∧ s.st.op = st.op) : (p6T s).all (fun s => s.st.tok = 3 ∧ s.st.op = st.op) :=
  ⟨fun _ => ⟨fun _ => ⟨fun _ => h, fun _ => h⟩, fun _ => h⟩, fun _ => h⟩
theorem number_rk {src : ByteArray} {seen : Bool} {st : St} (hO : Off src st) (hc : st.ch ≠ 10) (h : Rop st) : Rk (numberF src seen st) := by
  have tail : ∀ s, NumI src st s → (numTail src True Tree.leaf s).sat (fun s => s.st.tok = 3 ∧ s.st.op = st.op) := fun s hs => by
    simp only [numTail, sat_bind]
    exact sat_mono (p2T_sat hs) fun a h => sat_mono (p3T_sat h) fun a h => sat_mono (p4T_sat trivial h) fun a h => sat_mono (p45T_sat h) fun a h => sat_mono (sat_all (p5T_sat h) (p5T_op h.on.op)) fun a h => sat_mono (sat_all (p6T_sat h.1) (p6T_op h.2)) fun a h => h.2
  have key : (numTree src True Tree.leaf seen st).sat (fun s => s.st.tok = 3 ∧ s.st.op = st.op) := by
    unfold numTree
    split
    · exact tail _ ⟨.inr (.inr (.inl rfl)), hO, .inl (by show (-1 : Int) < 0; decide), On.refl _ _⟩
    · rw [sat_bind]; exact sat_mono (p1FT_sat hO hc) fun a ha => tail a ha
  obtain ⟨h1, h2⟩ := (num_get hO hc).1 key
  have e : (numberF src seen st).tok = 3 := h1
  exact ⟨by rw [e]; decide, h.of h2⟩
theorem sat_both {α : Type} {t : Tree α} {P R : α → Prop} (h : t.sat P) (hr : t.sat R) : t.sat (fun a => P a ∧ R a) := by
  induction t with
  | leaf a => exact ⟨h, hr⟩
  | test b t e iht ihe => exact ⟨fun hb => iht (h.1 hb) (hr.1 hb), fun hb => ihe (h.2 hb) (hr.2 hb)⟩
  | req p k ih => exact ⟨h.1, ih h.2 hr.2⟩
  | any t e iht ihe => exact ⟨iht h.1 hr.1, ihe h.2 hr.2⟩
  | fail => exact h.elim
def SwK : Fin → Prop
  | .done s _ => Rk s
  | .redo s => Rop s
  | .asg s => Rop s
theorem sw_satK {src : ByteArray} {nl : Bool} {st : St} (hO : Off src st) (hr : Rop st) : (swT src nl st).sat SwK := by
  have hb := hO.b
  have eqv : ∀ {k : Int}, (st.ch == k) = true → st.ch = k := fun h => by simpa using h
  have f1 : ∀ {t : Int} {s : St}, (1 ≤ t ∧ t ≤ 46) → s.op = st.op → (sw1 t s).sat SwK := fun h e => ⟨h, hr.of e⟩
  have f1o : ∀ {t : Int} {s : St}, (1 ≤ t ∧ t ≤ 46) → Rop s → (sw1 t s).sat SwK := fun h e => ⟨h, e⟩
  have f4 : ∀ {o p : Int} {s : St}, (0 ≤ o ∧ o ≤ 23) → (sw4 o p s).sat SwK := fun h => ⟨⟨by show (1 : Int) ≤ 4; decide, by show (4 : Int) ≤ 46; decide⟩, h⟩
  have fA : ∀ {o p : Int} {s : St}, (0 ≤ o ∧ o ≤ 23) → (swA o p s).sat SwK := fun h => h
  have fl : ∀ {w : ByteArray} {s : St}, s.op = st.op → SwK (.done (lit w s) []) := fun e => ⟨⟨by show (1 : Int) ≤ 18; decide, by show (18 : Int) ≤ 46; decide⟩, hr.of e⟩
  have num : ∀ k : Int, k ≠ 10 → (st.ch == k) = true → (swNum src false st).sat SwK := fun k hk h => by
    have hc : st.ch ≠ 10 := fun e => hk ((eqv h).symm.trans e)
    exact ⟨⟨hO, hc⟩, number_rk hO hc hr⟩
  have lt3 : ∀ {k : Int} {ok : Bool} {s : St}, s.op = st.op → Rk (setLitF src k ok s) := fun e => ⟨⟨by show (1 : Int) ≤ 3; decide, by show (3 : Int) ≤ 46; decide⟩, hr.of e⟩
  refine tr_sat (tr_sat (fl rfl) (f1 (by decide) rfl)) (tr_sat (fl rfl) ?_)
  refine test_sat (num 48 (by decide)) (test_sat (num 49 (by decide)) (test_sat (num 50 (by decide)) (test_sat (num 51 (by decide)) (test_sat (num 52 (by decide)) ?_))))
  refine test_sat (num 53 (by decide)) (test_sat (num 54 (by decide)) (test_sat (num 55 (by decide)) (test_sat (num 56 (by decide)) (test_sat (num 57 (by decide)) ?_))))
  refine tr_sat ⟨hb, lt3 (str_on src st).op⟩ (tr_sat ⟨hb, lt3 (raw_on src st).op⟩ (tr_sat ⟨hb, lt3 ((on_next src st).trans (rune_on src (nextch src st, true, 0))).op⟩ ?_))
  refine tr_sat (f1 (by decide) rfl) (tr_sat (f1 (by decide) rfl) (tr_sat (f1 (by decide) rfl) (tr_sat (f1 (by decide) rfl) (tr_sat (fl rfl) (tr_sat (f1 (by decide) rfl) (tr_sat (f1 (by decide) rfl) (tr_sat (f1 (by decide) rfl) ?_)))))))
  refine tr_sat (tr_sat (f1 (by decide) rfl) (f1 (by decide) rfl)) ?_
  refine test_sat (fun h => test_sat (fun h3 => ?_) (tr_sat (tr_sat (f1 (by decide) rfl) ⟨hb, f1 (by decide) rfl⟩) (f1 (by decide) rfl))) ?_
  · have o1 := (hO.next (by rw [eqv h]; decide)).1
    have c1 : (nextch src st).ch ≠ 10 := fun e => by rw [e] at h3; exact absurd h3 (by decide)
    exact ⟨⟨o1, c1⟩, number_rk o1 c1 (hr.of rfl)⟩
  refine tr_sat (tr_sat (fA (by decide)) (f1o (by decide) (show (0 : Int) ≤ 13 ∧ (13 : Int) ≤ 23 by decide))) (tr_sat (tr_sat (fA (by decide)) (f1o (by decide) (show (0 : Int) ≤ 14 ∧ (14 : Int) ≤ 23 by decide))) (tr_sat (tr_sat (f1o (by decide) (show (0 : Int) ≤ 17 ∧ (17 : Int) ≤ 23 by decide)) (f1o (by decide) (show (0 : Int) ≤ 17 ∧ (17 : Int) ≤ 23 by decide))) ?_))
  have r1 : SwK (.redo (lineCommentF src (nextch src (nextch src st)))) := hr.of (lineComment_op _ _)
  have r2 : SwK (.redo (fullCommentF src (nextch src (nextch src st)))) := hr.of (fullComment_op _ _)
  refine tr_sat (tr_sat ⟨hb, r1⟩ (tr_sat ⟨hb, tr_sat (tr_sat (fl (fullComment_op _ _)) r2) r2⟩ (fA (by decide)))) ?_
  refine tr_sat (fA (by decide)) (tr_sat (tr_sat (f4 (by decide)) (tr_sat (show (0 : Int) ≤ 21 ∧ (21 : Int) ≤ 23 by decide) (fA (by decide)))) (tr_sat (tr_sat (f4 (by decide)) (fA (by decide))) (tr_sat (fA (by decide)) ?_)))
  refine tr_sat (tr_sat (f4 (by decide)) (tr_sat (fA (by decide)) (tr_sat (f1 (by decide) rfl) (f4 (by decide))))) (tr_sat (tr_sat (f4 (by decide)) (tr_sat (fA (by decide)) (f4 (by decide)))) (tr_sat (tr_sat (f4 (by decide)) (f1 (by decide) rfl)) (tr_sat (tr_sat (f4 (by decide)) (f4 (by decide))) (tr_sat (f4 (by decide)) ?_))))
  exact hr.of rfl
theorem pass_satK {src : ByteArray} {nl : Bool} {st : St} (h : Pos0 src st) (hs : src.size ≤ 2048) (hr : Rop st) : (passT src nl st).sat SwK := by
  obtain ⟨p1, a1, n1⟩ := blanks_pos (nl := nl) h
  have r1 : Rop (skip src (cBlank nl) (stop st)) := hr.of (on_skip src (cBlank nl) (stop st)).op
  have key : ∀ bl : Bool, (hdT src (fun s => Fin.done s []) (swT src nl) (nxSt bl (skip src (cBlank nl) (stop st)))).sat SwK := fun bl => by
    have r2 : Rop (nxSt bl (skip src (cBlank nl) (stop st))) := r1.of rfl
    have hO := nxSt_off (bl := bl) p1 hs
    have hP := nxSt_pos bl p1
    generalize nxSt bl (skip src (cBlank nl) (stop st)) = s at *
    have oI := atIdF_on src true s
    exact ⟨fun _ => ⟨⟨nextch_chOk _ _, hO.b⟩, ident_rk (nextch_chOk _ _) (r2.of rfl)⟩, fun _ => ⟨fun _ => ⟨hP.ch, fun _ => ⟨⟨nextch_chOk _ _, by rw [oI.b]; exact hO.b⟩, ident_rk (nextch_chOk _ _) (r2.of oI.op)⟩, fun _ => sw_satK (atId_off hO) (r2.of oI.op)⟩, fun _ => sw_satK hO r2⟩⟩
  exact key _
/-- The token that next tells has a name. -/
theorem nextF_rk {src : ByteArray} {st : St} (h : Pos0 src st) (hs : src.size ≤ 2048) (hr : Rop st) : Rk (nextF src st).1 := by
  unfold nextF
  refine runF_sat (body := nextB src st.nlsemi) (μ := left src) (fun a => Pos0 src a ∧ Rop a) (P := fun r : St × List Value => Rk r.1) (fun a ha => ?_) { st with nlsemi := false } ⟨pos0_nl h false, hr⟩
  unfold nextB
  rw [sat_bind]
  have h1 := pass_satR (nl := st.nlsemi) ha.1 hs
  have h2 := pass_satK (nl := st.nlsemi) ha.1 hs ha.2
  have h3 : (passT src st.nlsemi a).sat (fun f => SwR src st.nlsemi a f ∧ SwK f) := sat_both h1 h2
  refine sat_mono h3 (fun f hf => ?_)
  obtain ⟨hf, hk⟩ := hf
  cases f with
  | done s bx => exact hk
  | redo s => exact ⟨⟨.inl hf.1, hk⟩, hf.2.2.1⟩
  | asg s =>
    have hk : Rop s := hk
    show Rk (asgF src s)
    unfold asgF
    split
    · exact ⟨⟨by show (1 : Int) ≤ 5; decide, by show (5 : Int) ≤ 46; decide⟩, hk.of rfl⟩
    · exact ⟨⟨by show (1 : Int) ≤ 4; decide, by show (4 : Int) ≤ 46; decide⟩, hk.of rfl⟩
end Sc
end Go.Proofs.YtogkcphobhhbdaaDoor

/- ZZScan: what a round reads of the scanner. -/
namespace Go.Proofs.YtogkcphobhhbdaaDoor
open Go Go.RowKit Go.Lib
namespace Sc
open Ev
set_option maxRecDepth 100000

theorem sval {A : Ad} {st : St} {w : World} {o : Nat} {u : Value} (h : SInv A st w) (hg : sget st o = some (.val u)) : w.cell? ⟨A.s, o, none⟩ = some u := by
  obtain ⟨v, hv, hr⟩ := sget_ok h hg
  have : v = u := hr []
  rw [hv, this]
/-- A token's sign. -/
def opStr (o : Int) : ByteArray := if o = 0 then opZero else opWord o.toNat
/-- The cells of a token told. -/
def tokCells (st : St) : List Value := [.int .u64 st.line, .int .u64 st.col, .bool st.blank, .string (tokWord st.tok.toNat), .string st.lit, .bool st.bad, .int .i64 (IntKind.i64.wrap st.kind), .string (opStr st.op), .int .i64 st.prec]
theorem opS_walk (w : World) (h : ∀ i, i < 24 → w.cell? ⟨2, i, none⟩ = some (.int .u8 ([0, 1, 2, 4, 5, 7, 9, 11, 13, 14, 16, 17, 19, 20, 21, 22, 23, 24, 25, 26, 27, 29, 31, 33].getD i 0))) (o : Int) (h1 : 0 ≤ o) (h2 : o ≤ 23) :
    Calls Tryd.prog 54 #[.int .u64 o] w fun e w' => e = .returned (.string (opStr o)) ∧ ∃ m, w' = w.drewN m := by
  unfold opStr
  by_cases h0 : o = 0
  · rw [if_pos h0, h0]; exact opS_0 w
  · rw [if_neg h0]
    have := opS_all w h o.toNat (by omega) (by omega)
    rw [show ((o.toNat : Nat) : Int) = o by omega] at this
    exact this
theorem tokS_walk (w : World) (h : ∀ i, i < 48 → w.cell? ⟨1, i, none⟩ = some (.int .u8 ([0, 3, 7, 14, 16, 19, 23, 24, 26, 28, 29, 30, 31, 32, 33, 34, 35, 36, 37, 38, 39, 42, 47, 51, 55, 60, 68, 75, 80, 84, 95, 98, 102, 104, 108, 110, 116, 125, 128, 135, 140, 146, 152, 158, 164, 168, 171, 171].getD i 0))) (t : Int) (h1 : 1 ≤ t) (h2 : t ≤ 46) :
    Calls Tryd.prog 53 #[.int .u64 t] w fun e w' => e = .returned (.string (tokWord t.toNat)) ∧ ∃ m, w' = w.drewN m := by
  have := tokS_all w h t.toNat (by omega) (by omega)
  rw [show ((t.toNat : Nat) : Int) = t by omega] at this
  exact this
end Sc
end Go.Proofs.YtogkcphobhhbdaaDoor

/- ZZScan: the end of a round walked. -/
namespace Go.Proofs.YtogkcphobhhbdaaDoor
open Go Go.RowKit Go.Lib
namespace Sc
open Ev
set_option maxRecDepth 100000

noncomputable abbrev zzBody : Code := bodyOf Tryd.f30
noncomputable abbrev zzRound : Code := loopOf (blkOf zzBody 0)
noncomputable abbrev zzIn : Code := blkOf zzBody 1
theorem zz_round : zzRound = .block 1 zzIn := by kernel_rfl

/-- The tables of names, as a world has them. -/
structure Tabs (w : World) : Prop where
  tok : ∀ i, i < 48 → w.cell? ⟨1, i, none⟩ = some (.int .u8 ([0, 3, 7, 14, 16, 19, 23, 24, 26, 28, 29, 30, 31, 32, 33, 34, 35, 36, 37, 38, 39, 42, 47, 51, 55, 60, 68, 75, 80, 84, 95, 98, 102, 104, 108, 110, 116, 125, 128, 135, 140, 146, 152, 158, 164, 168, 171, 171].getD i 0))
  op : ∀ i, i < 24 → w.cell? ⟨2, i, none⟩ = some (.int .u8 ([0, 1, 2, 4, 5, 7, 9, 11, 13, 14, 16, 17, 19, 20, 21, 22, 23, 24, 25, 26, 27, 29, 31, 33].getD i 0))
theorem Tabs.drewN {w : World} (h : Tabs w) (n : Nat) : Tabs (w.drewN n) := ⟨h.tok, h.op⟩
theorem Tabs.drew {w : World} (h : Tabs w) : Tabs w.drew := ⟨h.tok, h.op⟩
theorem Tabs.cells {w w' : World} (h : Tabs w) (h1 : w'.heap[1]? = w.heap[1]?) (h2 : w'.heap[2]? = w.heap[2]?) : Tabs w' :=
  ⟨fun i hi => by rw [World.cell?_of_block (w := w) (a := ⟨1, i, none⟩) h1]; exact h.tok i hi, fun i hi => by rw [World.cell?_of_block (w := w) (a := ⟨2, i, none⟩) h2]; exact h.op i hi⟩
theorem Tabs.lt {w : World} (h : Tabs w) : 1 < w.heap.size ∧ 2 < w.heap.size :=
  ⟨World.block_lt_of_cell? w _ (h.tok 0 (by decide)), World.block_lt_of_cell? w _ (h.op 0 (by decide))⟩
theorem Tabs.alloc {w : World} (h : Tabs w) (o : Obj) : Tabs (w.alloc o) :=
  h.cells (Below.heap_alloc _ _ _ h.lt.1) (Below.heap_alloc _ _ _ h.lt.2)
theorem Tabs.grown {w w' : World} {row : Option Nat} (h : Tabs w) (hg : w.grownBy w' row) (h1 : some 1 ≠ row) (h2 : some 2 ≠ row) : Tabs w' :=
  h.cells (hg.block _ h.lt.1 h1) (hg.block _ h.lt.2 h2)
theorem info_tok : (Tryd.prog.info? 57).map (fun i => (i.zero, i.size, i.bytes)) = some (some (.agg #[.int .u64 0, .int .u64 0, .bool false, .string ⟨#[]⟩, .string ⟨#[]⟩, .bool false, .int .i64 0, .string ⟨#[]⟩, .int .i64 0]), 9, 96) := by kernel_rfl
/-- A tape that went on. -/
theorem own_drewN {w : World} {base n : Nat} {e : TypeId} {sz : Nat} {v : Value} {xs : List Value} (h : w.ownsRow base e sz v n xs) (m : Nat) : (w.drewN m).ownsRow base e sz v n xs := h
theorem own_drew {w : World} {base n : Nat} {e : TypeId} {sz : Nat} {v : Value} {xs : List Value} (h : w.ownsRow base e sz v n xs) : (w.drew).ownsRow base e sz v n xs := h
/-- A token is appended. -/
theorem zz_app {w : World} {k base n : Nat} {v : Value} {xs : List Value} {st : St} (hown : w.ownsRow base 57 9 v n xs) (hbase : base ≤ w.heap.size) (hn : n ≤ 1000000)
    {ops : Array Oper} {o : Oper} {a : Act} {K : Act → World → Prop} {Q : Exit → Act → World → Prop} {E : Prop} (hgd : o.guard = none) (s x : Operand)
    (ho : o.op = .call { callee := .builtin .append, args := #[s, x], argTypes := #[51, 51] }) (hs : a.eval s = v) (hx : a.eval x = .slice (some ⟨w.heap.size, 0, none⟩) 1 1)
    (h : ∀ g cap w', w'.ownsRow base 57 9 (.slice (some ⟨g, 0, none⟩) (n + 1) cap) (n + 1) (xs ++ tokCells st) → ((w.drewN k).alloc (.cells (tokCells st).toArray 57)).grownBy w' v.ownBlock → (v.ownBlock = some g ∨ g = w.heap.size + 1) → g < w'.heap.size → K (a.put o.dst (.slice (some ⟨g, 0, none⟩) (n + 1) cap)) w') :
    if Region.wanted o (yielded ops a.tmps) = true then Oper.wp Tryd.prog o a ((w.drewN k).alloc (.cells (tokCells st).toArray 57)) K Q else E := by
  obtain ⟨i0, hi0, hz0, hz1, hz2⟩ := info_parts info_tok
  have hsz : ((w.drewN k).alloc (.cells (tokCells st).toArray 57)).heap.size = w.heap.size + 1 := by simp
  have hlen : (tokCells st).length = 9 := rfl
  have hml : n + 1 ≤ maxLen := by simp only [maxLen]; omega
  have hone : ∀ u ∈ tokCells st, u.oneCell' = true := by simp [tokCells, Value.oneCell']
  exact step_append_lies _ hgd s x 51 ho base 57 i0 _ 9 96 Tryd.underlying51 hi0 hz0 hz1 hz2 rfl (by omega) v n xs hs (own_alloc (own_drewN hown k) _)
    ⟨w.heap.size, 0, none⟩ 1 1 (tokCells st) hx hlen (World.news_of_block (cs := (tokCells st).toArray) (t := 57) (fr := (0, 0)) (heap_alloc_new (w.drewN k) _)) hone
    (by omega) hml (by omega) (by rw [hsz]; omega) (w.heap.size + 1) hsz h
/-- The slots of a round: the errors, the scanner, the tokens. -/
structure ZA (A : Ad) (v : Value) (a : Act) : Prop where
  defers : a.defers = []
  size : a.tmps.size = 46
  e : a.tmps[6]? = some (.pointer (some ⟨A.e, 0, none⟩))
  s : a.tmps[7]? = some (.pointer (some ⟨A.s, 0, none⟩))
  v : a.tmps[8]? = some v
theorem tmps46 (t : Array Value) (h : t.size = 46) : t = ((List.range 46).map fun i => t.getD i undef).toArray := by
  apply Array.ext_getElem?
  intro i
  simp only [List.getElem?_toArray, List.getElem?_map]
  by_cases hi : i < 46
  · rw [List.getElem?_range hi]
    simp [h, hi]
  · rw [Array.getElem?_eq_none (by omega), List.getElem?_eq_none (by simp; omega)]; rfl
theorem ZA.lit {A : Ad} {v : Value} {a : Act} (h : ZA A v a) : ∃ x : Nat → Value, a = { tmps := #[x 0, x 1, x 2, x 3, x 4, x 5, .pointer (some ⟨A.e, 0, none⟩), .pointer (some ⟨A.s, 0, none⟩), v, x 9, x 10, x 11, x 12, x 13, x 14, x 15, x 16, x 17, x 18, x 19, x 20, x 21, x 22, x 23, x 24, x 25, x 26, x 27, x 28, x 29, x 30, x 31, x 32, x 33, x 34, x 35, x 36, x 37, x 38, x 39, x 40, x 41, x 42, x 43, x 44, x 45], defers := [] } := by
  refine ⟨fun i => a.tmps.getD i undef, ?_⟩
  obtain ⟨t, d⟩ := a
  obtain ⟨h1, h2, h3, h4, h5⟩ := h
  simp only at h1 h2 h3 h4 h5
  subst h1
  have e6 : t.getD 6 undef = .pointer (some ⟨A.e, 0, none⟩) := by rw [Array.getD_eq_getD_getElem?, h3]; rfl
  have e7 : t.getD 7 undef = .pointer (some ⟨A.s, 0, none⟩) := by rw [Array.getD_eq_getD_getElem?, h4]; rfl
  have e8 : t.getD 8 undef = v := by rw [Array.getD_eq_getD_getElem?, h5]; rfl
  have ht := tmps46 t h2
  rw [← e6, ← e7, ← e8]
  exact congrArg (fun t => ({ tmps := t, defers := [] } : Act)) ht
theorem za_lit {A : Ad} {v : Value} (x : Nat → Value) : ZA A v { tmps := #[x 0, x 1, x 2, x 3, x 4, x 5, .pointer (some ⟨A.e, 0, none⟩), .pointer (some ⟨A.s, 0, none⟩), v, x 9, x 10, x 11, x 12, x 13, x 14, x 15, x 16, x 17, x 18, x 19, x 20, x 21, x 22, x 23, x 24, x 25, x 26, x 27, x 28, x 29, x 30, x 31, x 32, x 33, x 34, x 35, x 36, x 37, x 38, x 39, x 40, x 41, x 42, x 43, x 44, x 45], defers := [] } := ⟨rfl, rfl, rfl, rfl, rfl⟩
def fstC : Code → Code
  | .seq a _ => a
  | _ => .skip
noncomputable abbrev zzReg : Code := fstC (cutTail 1 zzIn)
theorem zz_cut : cutTail 1 zzIn = .seq zzReg (cutTail 2 zzIn) := by kernel_rfl
set_option maxHeartbeats 3200000 in
theorem zz_mid {A : Ad} (hA : A.Ok) {st : St} {w : World} (hI : SInv A st w) (hT : Tabs w) (hk : Rk st) (v : Value) (n : Nat) (xs : List Value) (hown : w.ownsRow A.base 57 9 v n xs) (hbase : A.base ≤ w.heap.size) (hn : n ≤ 1000000)
    (a0 : v.ownBlock ≠ some A.s) (a1 : v.ownBlock ≠ some 1) (a2 : v.ownBlock ≠ some 2) (Q : Exit → Act → World → Prop) (x : Nat → Value)
    (hQ : ∀ (k gg cap : Nat) (w1 : World) (a : Act), w1.ownsRow A.base 57 9 (.slice (some ⟨gg, 0, none⟩) (n + 1) cap) (n + 1) (xs ++ tokCells st) → ((w.drewN k).alloc (.cells (tokCells st).toArray 57)).grownBy w1 v.ownBlock → (v.ownBlock = some gg ∨ gg = w.heap.size + 1) → gg < w1.heap.size → Tabs w1 →
      ZA A (.slice (some ⟨gg, 0, none⟩) (n + 1) cap) a → Q .normal a w1) :
    zzReg.wp Tryd.prog Q { tmps := #[x 0, x 1, x 2, x 3, x 4, x 5, .pointer (some ⟨A.e, 0, none⟩), .pointer (some ⟨A.s, 0, none⟩), v, x 9, x 10, x 11, x 12, x 13, x 14, x 15, x 16, x 17, x 18, x 19, x 20, x 21, x 22, x 23, x 24, x 25, x 26, x 27, x 28, x 29, x 30, x 31, x 32, x 33, x 34, x 35, x 36, x 37, x 38, x 39, x 40, x 41, x 42, x 43, x 44, x 45], defers := [] } w := by
  have c13 := sval hI (o := 13) rfl
  have c14 := sval hI (o := 14) rfl
  have c15 := sval hI (o := 15) rfl
  have c16 := sval hI (o := 16) rfl
  have c17 := sval hI (o := 17) rfl
  have c18 := sval hI (o := 18) rfl
  have c19 := sval hI (o := 19) rfl
  have c20 := sval hI (o := 20) rfl
  have c21 := sval hI (o := 21) rfl
  obtain ⟨⟨k1, k2⟩, k3, k4⟩ := hk
  have ls := World.block_lt_of_cell? w _ c13
  clear hI
  simp only [zzReg, fstC, zzIn, zzBody, bodyOf, Tryd.f30, Option.getD, blkOf, cutTail, cutN, Option.map, Nat.beq, cond]
  have hz := fun v' => za_lit (A := A) (v := v')
  generalize hs : A.s = s at *
  generalize A.base = base at *
  go_region_held3 (fun w' => w'.cell? ⟨s, 13, none⟩ = some (.int .u64 st.line) ∧ w'.cell? ⟨s, 14, none⟩ = some (.int .u64 st.col) ∧ w'.cell? ⟨s, 15, none⟩ = some (.bool st.blank) ∧ w'.cell? ⟨s, 16, none⟩ = some (.int .u64 st.tok) ∧
      w'.cell? ⟨s, 17, none⟩ = some (.string st.lit) ∧ w'.cell? ⟨s, 18, none⟩ = some (.bool st.bad) ∧ w'.cell? ⟨s, 19, none⟩ = some (.int .u8 st.kind) ∧ w'.cell? ⟨s, 20, none⟩ = some (.int .u64 st.op) ∧ w'.cell? ⟨s, 21, none⟩ = some (.int .i64 st.prec) ∧ Tabs w')
    (first
      | (go_split_ands; refine ⟨?_, ?_, ?_, ?_, ?_, ?_, ?_, ?_, ?_, ?_⟩ <;> first
          | exact Tabs.drew (by assumption)
          | exact Tabs.drewN (by assumption) _
          | exact Tabs.alloc (by assumption) _
          | (go_keep; done)
          | (rw [hgrow.cell_far _ (by simp; omega) (Ne.symm a0)]; assumption)
          | exact Tabs.grown (by assumption) hgrow (Ne.symm a1) (Ne.symm a2)))
    (first
      | (go_at_call 53; go_split_ands; refine (tokS_walk _ (Tabs.tok (by assumption)) st.tok k1 k2).mono ?_; rintro en w' ⟨rfl, m, rfl⟩)
      | (go_at_call 54; go_split_ands; refine (opS_walk _ (Tabs.op (by assumption)) st.op k3 k4).mono ?_; rintro en w' ⟨rfl, m, rfl⟩)
      | (refine zz_app (st := st) hown hbase hn (by rfl) _ _ (by rfl) (by rfl) (by rfl) ?_; intro gg cap w1 hown1 hgrow hat hlt))
  go_split_ands
  exact hQ _ gg cap w1 _ hown1 hgrow hat hlt (by assumption) ⟨rfl, rfl, rfl, by rw [hs]; rfl, rfl⟩
end Sc
end Go.Proofs.YtogkcphobhhbdaaDoor

/- ZZScan: a round's test. -/
namespace Go.Proofs.YtogkcphobhhbdaaDoor
open Go Go.RowKit Go.Lib
namespace Sc
open Ev
set_option maxRecDepth 100000

theorem zz_fin {A : Ad} {st : St} {w : World} (hI : SInv A st w) (v : Value) (a : Act) (hz : ZA A v a) (Q : Exit → Act → World → Prop)
    (h1 : st.tok ≠ 1 → ∀ a', ZA A v a' → Q .normal a' w)
    (h2 : st.tok = 1 → ∀ ve a' w', w'.heap = w.heap → w'.os = w.os → w'.tape = w.tape → w'.output = w.output → w.cell? ⟨A.e, 0, none⟩ = some ve → a'.defers = [] → a'.tmps[4]? = some v → a'.tmps[5]? = some ve → Q .ret a' w') :
    (cutTail 2 zzIn).wp Tryd.prog Q a w := by
  obtain ⟨x, rfl⟩ := hz.lit
  have c16 := sval hI (o := 16) rfl
  obtain ⟨x0, hx, _⟩ := hI
  obtain ⟨ve, hve, _⟩ := hx.he
  have ce := cell_of_block hve (o := 0) (v := ve) rfl
  have ls := World.block_lt_of_cell? w _ c16
  clear hx hve
  simp only [zzIn, zzBody, bodyOf, Tryd.f30, Option.getD, blkOf, cutTail, cutN, Option.map, Nat.beq, cond]
  generalize hs : A.s = s at *
  generalize he : A.e = e at *
  go_wp2
  · rename_i ht K hK
    have ht1 : st.tok = 1 := by simpa using ht
    clear hz
    go_region_held3 (fun w' => w'.cell? ⟨e, 0, none⟩ = some ve) (go_keep) (fail)
    all_goals (simp only [Exit.then]; refine hK _ _ (wp_ret ?_); refine h2 ht1 ve _ _ ?_ ?_ ?_ ?_ ce ?_ ?_ ?_ <;> rfl)
  · rename_i ht
    exact h1 (by simpa using ht) _ ⟨rfl, rfl, by rw [he]; rfl, by rw [hs]; rfl, rfl⟩
end Sc
end Go.Proofs.YtogkcphobhhbdaaDoor

/- Plain: trees with one answer, rounds unfolded; two runs side by side. No program, no memory. -/
namespace Go.Proofs.YtogkcphobhhbdaaDoor
open Go Go.RowKit Go.Lib
namespace Sc
open Ev
set_option maxRecDepth 100000

theorem get_bind {α β : Type} {t : Tree α} {P : α → Prop} (h : t.sat P) (f : α → Tree β) (d : β) (x : α) : (t.bind f).get d = (f (t.get x)).get d := by
  induction t with
  | leaf a => rfl
  | test b t e iht ihe =>
    cases b with
    | true => exact iht (h.1 rfl)
    | false => exact ihe (h.2 rfl)
  | req p k ih => exact ih h.2
  | any t e iht _ => exact iht h.1
  | fail => exact h.elim
theorem get_irrel {α : Type} {t : Tree α} {P : α → Prop} (h : t.sat P) (x y : α) : t.get x = t.get y := by
  induction t with
  | leaf a => rfl
  | test b t e iht ihe =>
    cases b with
    | true => exact iht (h.1 rfl)
    | false => exact ihe (h.2 rfl)
  | req p k ih => exact ih h.2
  | any t e iht _ => exact iht h.1
  | fail => exact h.elim
/-- A round goes on to something smaller, or ends. -/
def Falls {α β : Type} (I : α → Prop) (μ : α → Nat) (a : α) : Step α β → Prop
  | .go a' => I a' ∧ μ a' < μ a
  | .out _ => True
theorem runT_more {α β : Type} {body : α → Tree (Step α β)} {μ : α → Nat} {I : α → Prop} (hb : ∀ a, I a → (body a).sat (Falls I μ a)) {d : β} : ∀ (n m : Nat) (a : α), I a → μ a < n → μ a < m → (Ev.runT body n a).get d = (Ev.runT body m a).get d
  | 0, _, _, _, h, _ => by omega
  | _, 0, _, _, _, h => by omega
  | n + 1, m + 1, a, ha, hn, hm => by
    have hs := hb a ha
    simp only [Ev.runT]
    rw [get_bind hs _ d (.out d), get_bind hs _ d (.out d)]
    have hg := get_of_sat (d := .out d) hs
    cases hk : (body a).get (.out d) with
    | out b => rfl
    | go a' =>
      rw [hk] at hg
      obtain ⟨h1, h2⟩ := hg
      exact runT_more hb n m a' h1 (by omega) (by omega)
/-- One round of a loop's answer. -/
def stepF {α β : Type} (body : α → Tree (Step α β)) (μ : α → Nat) (d : β) : Step α β → β
  | .go a => runF body μ d a
  | .out b => b
theorem runF_step {α β : Type} {body : α → Tree (Step α β)} {μ : α → Nat} {I : α → Prop} (hb : ∀ a, I a → (body a).sat (Falls I μ a)) {d : β} {a : α} (ha : I a) (x : Step α β) : runF body μ d a = stepF body μ d ((body a).get x) := by
  have hs := hb a ha
  unfold runF
  simp only [Ev.runT]
  rw [get_bind hs _ d x]
  have hg := get_of_sat (d := x) hs
  cases hk : (body a).get x with
  | out b => rfl
  | go a' =>
    rw [hk] at hg
    obtain ⟨h1, h2⟩ := hg
    exact runT_more hb _ _ a' h1 h2 (Nat.lt_succ_self _)

/-- Trees that go alike, their leaves related. -/
def TRel {α β : Type} (R : α → β → Prop) : Tree α → Tree β → Prop
  | .leaf a, .leaf b => R a b
  | .test c t e, .test c' t' e' => c = c' ∧ (c = true → TRel R t t') ∧ (c = false → TRel R e e')
  | .req _ k, .req _ k' => TRel R k k'
  | .fail, .fail => True
  | _, _ => False
theorem trel_get {α β : Type} {R : α → β → Prop} {d : α} {d' : β} (hd : R d d') : ∀ (t : Tree α) (t' : Tree β), TRel R t t' → R (t.get d) (t'.get d') := by
  intro t
  induction t with
  | leaf a => intro t' h; cases t' with
    | leaf b => exact h
    | _ => exact h.elim
  | test c t e iht ihe => intro t' h; cases t' with
    | test c' t2 e2 =>
      obtain ⟨rfl, h1, h2⟩ := h
      cases c with
      | true => exact iht t2 (h1 rfl)
      | false => exact ihe e2 (h2 rfl)
    | _ => exact h.elim
  | req p k ih => intro t' h; cases t' with
    | req p' k' => exact ih k' h
    | _ => exact h.elim
  | any t e _ _ => intro t' h; cases t' <;> exact h.elim
  | fail => intro t' h; cases t' with
    | fail => exact hd
    | _ => exact h.elim
theorem trel_bind {α β γ δ : Type} {R : α → β → Prop} {S : γ → δ → Prop} {f : α → Tree γ} {g : β → Tree δ} (hf : ∀ a b, R a b → TRel S (f a) (g b)) : ∀ (t : Tree α) (t' : Tree β), TRel R t t' → TRel S (t.bind f) (t'.bind g) := by
  intro t
  induction t with
  | leaf a => intro t' h; cases t' with
    | leaf b => exact hf _ _ h
    | _ => exact h.elim
  | test c t e iht ihe => intro t' h; cases t' with
    | test c' t2 e2 => exact ⟨h.1, fun hc => iht _ (h.2.1 hc), fun hc => ihe _ (h.2.2 hc)⟩
    | _ => exact h.elim
  | req p k ih => intro t' h; cases t' with
    | req p' k' => exact ih k' h
    | _ => exact h.elim
  | any t e _ _ => intro t' h; cases t' <;> exact h.elim
  | fail => intro t' h; cases t' with
    | fail => trivial
    | _ => exact h.elim
def StepRel {α α' β β' : Type} (R : α → α' → Prop) (S : β → β' → Prop) : Step α β → Step α' β' → Prop
  | .go a, .go a' => R a a'
  | .out b, .out b' => S b b'
  | _, _ => False
theorem trel_run {α α' β β' : Type} {R : α → α' → Prop} {S : β → β' → Prop} {body : α → Tree (Step α β)} {body' : α' → Tree (Step α' β')} (h : ∀ a a', R a a' → TRel (StepRel R S) (body a) (body' a')) : ∀ n a a', R a a' → TRel S (Ev.runT body n a) (Ev.runT body' n a')
  | 0, _, _, _ => trivial
  | n + 1, a, a', ha => by
    simp only [Ev.runT]
    refine trel_bind (fun s s' hs => ?_) _ _ (h a a' ha)
    cases s with
    | go x => cases s' with
      | go x' => exact trel_run h n x x' hs
      | out _ => exact hs.elim
    | out x => cases s' with
      | go _ => exact hs.elim
      | out x' => exact hs
theorem runF_rel {α α' β β' : Type} {R : α → α' → Prop} {S : β → β' → Prop} {body : α → Tree (Step α β)} {body' : α' → Tree (Step α' β')} {μ : α → Nat} {μ' : α' → Nat} {d : β} {d' : β'}
    (hμ : ∀ a a', R a a' → μ' a' = μ a) (hd : S d d') (h : ∀ a a', R a a' → TRel (StepRel R S) (body a) (body' a')) {a : α} {a' : α'} (ha : R a a') : S (runF body μ d a) (runF body' μ' d' a') := by
  unfold runF
  rw [hμ a a' ha]
  exact trel_get hd _ _ (trel_run h _ a a' ha)
end Sc
end Go.Proofs.YtogkcphobhhbdaaDoor

/- Plain: states that differ only in the mode and in what was told: the scanner's functions keep them so. -/
namespace Go.Proofs.YtogkcphobhhbdaaDoor
open Go Go.RowKit Go.Lib
namespace Sc
open Ev
set_option maxRecDepth 100000

/-- The same but for the mode, what was told, and where the segment begins. -/
def SimB (a b : St) : Prop := ∃ m ns bb, b = { a with mode := m, notes := ns, b := bb }
/-- The same but for the mode and what was told. -/
def Sim (a b : St) : Prop := SimB a b ∧ b.b = a.b
theorem SimB.refl (a : St) : SimB a a := ⟨a.mode, a.notes, a.b, rfl⟩
theorem SimB.symm {a b : St} (h : SimB a b) : SimB b a := by obtain ⟨m, ns, bb, rfl⟩ := h; exact ⟨a.mode, a.notes, a.b, rfl⟩
theorem SimB.trans {a b c : St} (h : SimB a b) (h' : SimB b c) : SimB a c := by
  obtain ⟨m, ns, bb, rfl⟩ := h
  obtain ⟨m', ns', bb', rfl⟩ := h'
  exact ⟨m', ns', bb', rfl⟩
theorem Sim.refl (a : St) : Sim a a := ⟨SimB.refl a, rfl⟩
theorem SimB.ch {a b : St} (h : SimB a b) : b.ch = a.ch := by obtain ⟨m, ns, bb, rfl⟩ := h; rfl
theorem SimB.p {a b : St} (h : SimB a b) : b.p = a.p := by obtain ⟨m, ns, bb, rfl⟩ := h; rfl
theorem SimB.chw {a b : St} (h : SimB a b) : b.chw = a.chw := by obtain ⟨m, ns, bb, rfl⟩ := h; rfl
theorem SimB.line0 {a b : St} (h : SimB a b) : b.line0 = a.line0 := by obtain ⟨m, ns, bb, rfl⟩ := h; rfl
theorem SimB.col0 {a b : St} (h : SimB a b) : b.col0 = a.col0 := by obtain ⟨m, ns, bb, rfl⟩ := h; rfl
theorem SimB.line {a b : St} (h : SimB a b) : b.line = a.line := by obtain ⟨m, ns, bb, rfl⟩ := h; rfl
theorem SimB.col {a b : St} (h : SimB a b) : b.col = a.col := by obtain ⟨m, ns, bb, rfl⟩ := h; rfl
theorem SimB.nlsemi {a b : St} (h : SimB a b) : b.nlsemi = a.nlsemi := by obtain ⟨m, ns, bb, rfl⟩ := h; rfl
theorem SimB.lit {a b : St} (h : SimB a b) : b.lit = a.lit := by obtain ⟨m, ns, bb, rfl⟩ := h; rfl
theorem SimB.tok {a b : St} (h : SimB a b) : b.tok = a.tok := by obtain ⟨m, ns, bb, rfl⟩ := h; rfl
theorem SimB.left (src : ByteArray) {a b : St} (h : SimB a b) : left src b = left src a := by obtain ⟨m, ns, bb, rfl⟩ := h; rfl

theorem readAt_sim (src : ByteArray) (line : Int) : ∀ (f : Nat) (fresh : Bool) (p : Nat) (col : Int) (ns ns' : List Note), ∃ l, readAt src line f fresh p col ns' = { readAt src line f fresh p col ns with notes := l }
  | 0, _, _, _, _, ns' => ⟨ns', rfl⟩
  | f + 1, fresh, p, col, ns, ns' => by
    simp only [readAt]
    by_cases h1 : p < src.size
    · simp only [if_pos h1]
      by_cases h2 : (src.get! p).toNat < 128
      · simp only [if_pos h2]
        by_cases h3 : (src.get! p).toNat = 0 ∧ fresh = false
        · simp only [if_pos h3]; exact readAt_sim src line f _ _ _ _ _
        · simp only [if_neg h3]; exact ⟨ns', rfl⟩
      · simp only [if_neg h2]
        by_cases h3 : (Utf8.decode src p).1 = 0xFFFD ∧ (Utf8.decode src p).2 = 1
        · simp only [if_pos h3]; exact readAt_sim src line f _ _ _ _ _
        · simp only [if_neg h3]
          by_cases h4 : (Utf8.decode src p).1 = 0xFEFF
          · simp only [if_pos h4]; exact readAt_sim src line f _ _ _ _ _
          · simp only [if_neg h4]; exact ⟨ns', rfl⟩
    · simp only [if_neg h1]; exact ⟨ns', rfl⟩
theorem SimB.next {src : ByteArray} {a b : St} (h : SimB a b) : SimB (nextch src a) (nextch src b) := by
  obtain ⟨m, ns, bb, rfl⟩ := h
  obtain ⟨l, hl⟩ := readAt_sim src (nlLine a) (src.size + 1) a.fresh a.p (nlCol a) a.notes ns
  refine ⟨m, l, bb, ?_⟩
  show St.read _ (nlLine a) (readAt src (nlLine a) (src.size + 1) a.fresh a.p (nlCol a) ns) = _
  rw [hl]; rfl
theorem Sim.next {src : ByteArray} {a b : St} (h : Sim a b) : Sim (nextch src a) (nextch src b) := ⟨h.1.next, h.2⟩
theorem SimB.errAt {a b : St} (h : SimB a b) (l c : Int) (m : ByteArray) : SimB (errAt l c m a) (errAt l c m b) := by obtain ⟨m, ns, bb, rfl⟩ := h; exact ⟨_, _, _, rfl⟩
theorem Sim.errAt {a b : St} (h : Sim a b) (l c : Int) (m : ByteArray) : Sim (errAt l c m a) (errAt l c m b) := ⟨h.1.errAt l c m, h.2⟩
theorem Sim.error {a b : St} (h : Sim a b) (m : ByteArray) : Sim (error m a) (error m b) := by
  have : Sc.error m b = Sc.errAt (u64 (1 + a.line0)) (u64 (1 + a.col0)) m b := by unfold Sc.error; rw [h.1.line0, h.1.col0]
  rw [this]; exact h.errAt _ _ _
theorem Sim.errorAtF {a b : St} (h : Sim a b) (o : Int) (m : ByteArray) : Sim (errorAtF o m a) (errorAtF o m b) := by
  have : Sc.errorAtF o m b = Sc.errAt a.line (u64 (a.col + u64 o)) m b := by unfold Sc.errorAtF; rw [h.1.line, h.1.col]
  rw [this]; exact h.errAt _ _ _
/-- What is told changes nothing else. -/
theorem simB_errAt (a : St) (l c : Int) (m : ByteArray) : SimB a (errAt l c m a) := ⟨_, _, _, rfl⟩
theorem simB_errorAtF (a : St) (o : Int) (m : ByteArray) : SimB a (errorAtF o m a) := ⟨_, _, _, rfl⟩
theorem simB_stop (a : St) : SimB a (stop a) := ⟨_, _, _, rfl⟩
theorem simB_commentF (a : St) (m : ByteArray) : SimB a (commentF m a) := ⟨_, _, _, rfl⟩
theorem SimB.skipN {src : ByteArray} {c : Int → Bool} : ∀ (n : Nat) {a b : St}, SimB a b → SimB (skipN src c n a) (skipN src c n b)
  | 0, a, b, h => h
  | n + 1, a, b, h => by
    simp only [Sc.skipN, h.ch]
    split
    · exact SimB.skipN n h.next
    · exact h
theorem SimB.skip {src : ByteArray} {c : Int → Bool} {a b : St} (h : SimB a b) : SimB (skip src c a) (skip src c b) := by
  unfold Sc.skip
  rw [h.left src]
  exact SimB.skipN _ h
theorem Sim.skip {src : ByteArray} {c : Int → Bool} {a b : St} (h : Sim a b) : Sim (skip src c a) (skip src c b) :=
  ⟨h.1.skip, by rw [(on_skip src c b).b, (on_skip src c a).b]; exact h.2⟩
theorem Sim.seg {src : ByteArray} {a b : St} (h : Sim a b) : seg src b = seg src a := by
  unfold Sc.seg
  rw [h.2, h.1.p, h.1.chw]
theorem Sim.setLit {src : ByteArray} {a b : St} (h : Sim a b) (k : Int) (ok : Bool) : Sim (setLitF src k ok a) (setLitF src k ok b) := by
  refine ⟨?_, h.2⟩
  unfold setLitF
  rw [h.seg]
  obtain ⟨⟨m, ns, bb, rfl⟩, _⟩ := h
  exact ⟨m, ns, bb, rfl⟩
/-- The same change on both sides. -/
theorem SimB.upd {a b : St} (h : SimB a b) (f : St → St) (hf : ∀ a m ns bb, f { a with mode := m, notes := ns, b := bb } = { f a with mode := m, notes := ns, b := bb }) : SimB (f a) (f b) := by
  obtain ⟨m, ns, bb, rfl⟩ := h
  exact ⟨m, ns, bb, hf _ _ _ _⟩
theorem Sim.upd {a b : St} (h : Sim a b) (f : St → St) (hf : ∀ a m ns bb, f { a with mode := m, notes := ns, b := bb } = { f a with mode := m, notes := ns, b := bb }) (hb : ∀ a, (f a).b = a.b) : Sim (f a) (f b) := ⟨h.1.upd f hf, by rw [hb, hb]; exact h.2⟩

/-! Remarks -/
def RBB (x y : Bool × St) : Prop := y.1 = x.1 ∧ SimB x.2 y.2
theorem SimB.stars {src : ByteArray} {a b : St} (h : SimB a b) : RBB (starsF src a) (starsF src b) :=
  runF_rel (R := SimB) (S := RBB) (body := starsB src) (body' := starsB src) (fun _ _ h => h.left src) ⟨rfl, SimB.refl _⟩ (fun a b h => ⟨by rw [h.ch], fun _ => ⟨by rw [h.next.ch], fun _ => ⟨rfl, h.next.next⟩, fun _ => h.next⟩, fun _ => ⟨rfl, h⟩⟩) h
theorem SimB.sc {src : ByteArray} {a b : St} (h : SimB a b) : RBB (scF src a) (scF src b) :=
  runF_rel (R := SimB) (S := RBB) (body := scB src) (body' := scB src) (fun _ _ h => h.left src) ⟨rfl, SimB.refl _⟩ (fun a b h => ⟨by rw [h.ch], fun _ => ⟨by rw [h.stars.1], fun _ => ⟨rfl, h.stars.2⟩, fun _ => h.stars.2.next⟩, fun _ => ⟨rfl, h⟩⟩) h
theorem SimB.skipComment {src : ByteArray} {a b : St} (h : SimB a b) : RBB (skipCommentF src a) (skipCommentF src b) := by
  have := h.sc (src := src)
  unfold skipCommentF
  rw [this.1]
  split
  · exact ⟨rfl, this.2⟩
  · exact ⟨rfl, ((simB_errorAtF _ _ _).symm.trans this.2).trans (simB_errorAtF _ _ _)⟩
theorem notLine_m1 : notLine (-1) = false := rfl
/-- Reading a word of such characters ahead of skipping them changes nothing. -/
theorem skip_pfx (src : ByteArray) (c : Int → Bool) (hc : c (-1) = false) : ∀ (rs : List Int) (st : St), (∀ r ∈ rs, c r = true) → skip src c (pfxF src rs st).2 = skip src c st
  | [], st, _ => rfl
  | r :: rs, st, h => by
    simp only [pfxF]
    split
    · rename_i hr
      rw [skip_pfx src c hc rs _ (fun x hx => h x (List.mem_cons_of_mem _ hx)), skip_eq src c hc st, if_pos (by rw [hr]; exact h r (List.mem_cons_self ..))]
    · rfl
theorem lcTxt_simB (src : ByteArray) (st : St) : SimB (skip src notLine st) (lcTxt src st) := simB_commentF _ _
theorem lcSkip_simB (src : ByteArray) (st : St) : SimB (skip src notLine st) (lcSkip src st) := (simB_stop st).skip
theorem goRunes : runesAt goW (goW.size + 1) 0 = [103, 111, 58] := by kernel_rfl
theorem lineRunes : runesAt lineW (lineW.size + 1) 0 = [108, 105, 110, 101, 32] := by kernel_rfl
theorem lineComment_simB (src : ByteArray) (st : St) : SimB (skip src notLine st) (lineCommentF src st) := by
  have go : ∀ w, (∀ r ∈ runesAt w (w.size + 1) 0, notLine r = true) → SimB (skip src notLine st) (pfxGo src w (lcSkip src) (lcTxt src) st) := fun w hw => by
    have e := skip_pfx src notLine notLine_m1 _ st hw
    unfold pfxGo
    split
    · rw [← e]; exact lcTxt_simB _ _
    · rw [← e]; exact lcSkip_simB _ _
  unfold lineCommentF
  split
  · exact lcTxt_simB _ _
  · split
    · exact lcSkip_simB _ _
    · split
      · exact go lineW (by rw [lineRunes]; decide)
      · exact go goW (by rw [goRunes]; decide)
theorem SimB.lineComment {src : ByteArray} {a b : St} (h : SimB a b) : SimB (lineCommentF src a) (lineCommentF src b) :=
  ((lineComment_simB src a).symm.trans h.skip).trans (lineComment_simB src b)

theorem starsB_falls (src : ByteArray) (st : St) : (starsB src st).sat (Falls (fun _ => True) (left src) st) := by
  refine ⟨fun h => ⟨fun _ => trivial, fun _ => ⟨trivial, nextch_left src st (fun e => by rw [e] at h; exact absurd h (by decide))⟩⟩, fun _ => trivial⟩
theorem stars_none {src : ByteArray} {st : St} (h : ¬ st.ch = 42) : starsF src st = (false, st) := by
  unfold starsF
  rw [runF_step (fun a _ => starsB_falls src a) trivial (.out (false, st))]
  have : (st.ch == 42) = false := by simpa using h
  simp only [starsB, this, Tree.get]
  rfl
theorem sc_next {src : ByteArray} {st : St} (h0 : 0 ≤ st.ch) (h : ¬ st.ch = 42) : scF src st = scF src (nextch src st) := by
  have hf : ∀ a, (scB src a).sat (Falls (fun _ => True) (left src) a) := fun a => sat_mono (scB_on src a) (fun s hs => by cases s with
    | go a' => exact ⟨trivial, hs⟩
    | out b => trivial)
  have e : scF src st = stepF (scB src) (left src) (false, st0) ((scB src st).get (.out (false, st))) := runF_step (fun a _ => hf a) trivial _
  rw [e]
  have h1 : decide (st.ch ≥ 0) = true := decide_eq_true h0
  have h2 := stars_none (src := src) h
  simp only [scB, h1, h2, Tree.get]
  rfl
theorem skipComment_pfx (src : ByteArray) : ∀ (rs : List Int) (st : St), (∀ r ∈ rs, 0 ≤ r ∧ ¬ r = 42) → skipCommentF src (pfxF src rs st).2 = skipCommentF src st
  | [], st, _ => rfl
  | r :: rs, st, h => by
    simp only [pfxF]
    split
    · rename_i hr
      have hr1 := h r (List.mem_cons_self ..)
      rw [skipComment_pfx src rs _ (fun x hx => h x (List.mem_cons_of_mem _ hx))]
      unfold skipCommentF
      rw [sc_next (st := st) (by rw [hr]; exact hr1.1) (by rw [hr]; exact hr1.2)]
    · rfl
theorem fcTxt_simB (src : ByteArray) (st : St) : SimB (skipCommentF src st).2 (fcTxt src st) := by
  unfold fcTxt
  split
  · exact simB_commentF _ _
  · exact SimB.refl _
theorem fcSkip_simB (src : ByteArray) (st : St) : SimB (skipCommentF src st).2 (fcSkip src st) := ((simB_stop st).skipComment (src := src)).2
theorem fullComment_simB (src : ByteArray) (st : St) : SimB (skipCommentF src st).2 (fullCommentF src st) := by
  have e := skipComment_pfx src _ st (show ∀ r ∈ runesAt lineW (lineW.size + 1) 0, 0 ≤ r ∧ ¬ r = 42 by rw [lineRunes]; decide)
  unfold fullCommentF
  split
  · exact fcTxt_simB _ _
  · split
    · exact fcSkip_simB _ _
    · unfold pfxGo
      split
      · rw [← e]; exact fcTxt_simB _ _
      · rw [← e]; exact fcSkip_simB _ _
theorem SimB.fullComment {src : ByteArray} {a b : St} (h : SimB a b) : SimB (fullCommentF src a) (fullCommentF src b) :=
  ((fullComment_simB src a).symm.trans (h.skipComment (src := src)).2).trans (fullComment_simB src b)

/-! Literals -/
def RBS (x y : Bool × St) : Prop := y.1 = x.1 ∧ Sim x.2 y.2
def RSB (x y : St × Bool) : Prop := Sim x.1 y.1 ∧ y.2 = x.2
theorem esc_sim {src : ByteArray} {b : Int} {p q : St × Int × Int} (h : Sim p.1 q.1 ∧ q.2 = p.2) : Sim (escLF src b p).1 (escLF src b q).1 ∧ (escLF src b q).2 = (escLF src b p).2 := by
  refine runF_rel (R := fun p q : St × Int × Int => Sim p.1 q.1 ∧ q.2 = p.2) (S := fun x y : St × Int × Option Bool => Sim x.1 y.1 ∧ y.2 = x.2) (fun p q h => by unfold escM; rw [h.2]) ⟨Sim.refl _, rfl⟩ (fun p q h => ?_) h
  obtain ⟨a, x, i⟩ := p
  obtain ⟨b', x', i'⟩ := q
  obtain ⟨h, he⟩ := h
  have h : Sim a b' := h
  simp only [Prod.mk.injEq] at he
  obtain ⟨rfl, rfl⟩ := he
  refine ⟨rfl, fun _ => ⟨by show _ = decide (b'.ch < 0); rw [h.1.ch], fun _ => ⟨h, rfl⟩, fun _ => ⟨by show _ = decide (digitOf b b'.ch ≥ b); rw [h.1.ch], fun _ => ⟨h.error _, rfl⟩, fun _ => ⟨h.next, ?_⟩⟩⟩, fun _ => ⟨h, rfl⟩⟩
  show (_, _) = (_, _)
  rw [show b'.ch = a.ch from h.1.ch]
theorem escTail_sim {b m : Int} {r s : St × Int × Option Bool} (h : Sim r.1 s.1 ∧ s.2 = r.2) : RBS (escTail b m r) (escTail b m s) := by
  obtain ⟨a, x, i⟩ := r
  obtain ⟨b', x', i'⟩ := s
  obtain ⟨h, he⟩ := h
  have h : Sim a b' := h
  simp only [Prod.mk.injEq] at he
  obtain ⟨rfl, rfl⟩ := he
  unfold escTail
  cases i' with
  | some y => exact ⟨rfl, h⟩
  | none =>
    simp only
    split
    · exact ⟨rfl, h.error _⟩
    · split
      · exact ⟨rfl, h.error _⟩
      · exact ⟨rfl, h⟩
theorem Sim.escape {src : ByteArray} {q : Int} {a b : St} (h : Sim a b) : RBS (escapeF src q a) (escapeF src q b) := by
  unfold escapeF
  rw [h.1.ch]
  split
  · exact ⟨rfl, h.next⟩
  · split
    · exact escTail_sim (esc_sim ⟨h, rfl⟩)
    · split
      · exact escTail_sim (esc_sim ⟨h.next, rfl⟩)
      · split
        · exact escTail_sim (esc_sim ⟨h.next, rfl⟩)
        · split
          · exact escTail_sim (esc_sim ⟨h.next, rfl⟩)
          · split
            · exact ⟨rfl, h⟩
            · exact ⟨rfl, h.error _⟩
theorem rawL_sim {src : ByteArray} {p q : St × Bool} (h : RSB p q) : RSB (rawLF src p) (rawLF src q) := by
  refine runF_rel (R := RSB) (S := RSB) (fun p q h => h.1.1.left src) ⟨Sim.refl _, rfl⟩ (fun p q h => ?_) h
  obtain ⟨h, he⟩ := h
  exact ⟨by rw [h.1.ch], fun _ => ⟨h.next, he⟩, fun _ => ⟨by rw [h.1.ch], fun _ => ⟨h.errorAtF _ _, rfl⟩, fun _ => ⟨h.next, he⟩⟩⟩
theorem strL_sim {src : ByteArray} {p q : St × Bool} (h : RSB p q) : RSB (strLF src p) (strLF src q) := by
  refine runF_rel (R := RSB) (S := RSB) (fun p q h => h.1.1.left src) ⟨Sim.refl _, rfl⟩ (fun p q h => ?_) h
  obtain ⟨h, he⟩ := h
  have he1 := h.next (src := src) |>.escape (src := src) (q := 34)
  exact ⟨by rw [h.1.ch], fun _ => ⟨h.next, he⟩, fun _ => ⟨by rw [h.1.ch], fun _ => ⟨by rw [he1.1], fun _ => ⟨he1.2, rfl⟩, fun _ => ⟨he1.2, he⟩⟩,
    fun _ => ⟨by rw [h.1.ch], fun _ => ⟨h.error _, rfl⟩, fun _ => ⟨by rw [h.1.ch], fun _ => ⟨h.errorAtF _ _, rfl⟩, fun _ => ⟨h.next, he⟩⟩⟩⟩⟩
theorem runeL_sim {src : ByteArray} {p q : St × Bool × Int} (h : Sim p.1 q.1 ∧ q.2 = p.2) : RSB (runeLF src p) (runeLF src q) := by
  refine runF_rel (R := fun p q : St × Bool × Int => Sim p.1 q.1 ∧ q.2 = p.2) (S := RSB) (fun p q h => h.1.1.left src) ⟨Sim.refl _, rfl⟩ (fun p q h => ?_) h
  obtain ⟨a, ok, i⟩ := p
  obtain ⟨b, ok', i'⟩ := q
  obtain ⟨h, he⟩ := h
  have h : Sim a b := h
  simp only [Prod.mk.injEq] at he
  obtain ⟨rfl, rfl⟩ := he
  have he1 := h.next (src := src) |>.escape (src := src) (q := 39)
  have c := h.1.ch
  refine ⟨by show _ = (b.ch == 39); rw [c], fun _ => ⟨rfl, fun _ => ⟨rfl, fun _ => ⟨(h.error _).next, rfl⟩, fun _ => ⟨rfl, fun _ => ⟨(h.errorAtF _ _).next, rfl⟩, fun _ => ⟨h.next, rfl⟩⟩⟩, fun _ => ⟨h.next, rfl⟩⟩, fun _ => ?_⟩
  refine ⟨by show _ = (b.ch == 92); rw [c], fun _ => ⟨by show (!(escapeF src 39 (nextch src a)).fst) = (!(escapeF src 39 (nextch src b)).fst); rw [he1.1], fun _ => ⟨he1.2, rfl⟩, fun _ => ⟨he1.2, rfl⟩⟩, fun _ => ?_⟩
  refine ⟨by show _ = (b.ch == 10); rw [c], fun _ => ⟨rfl, fun _ => ⟨h.error _, rfl⟩, fun _ => ⟨h, rfl⟩⟩, fun _ => ?_⟩
  exact ⟨by show _ = decide (b.ch < 0); rw [c], fun _ => ⟨rfl, fun _ => ⟨h.errorAtF _ _, rfl⟩, fun _ => ⟨h, rfl⟩⟩, fun _ => ⟨h.next, rfl⟩⟩
theorem Sim.raw {src : ByteArray} {a b : St} (h : Sim a b) : Sim (rawStringF src a) (rawStringF src b) := by
  have := rawL_sim (src := src) (p := (nextch src a, true)) (q := (nextch src b, true)) ⟨h.next, rfl⟩
  unfold rawStringF
  rw [this.2]; exact this.1.setLit _ _
theorem Sim.str {src : ByteArray} {a b : St} (h : Sim a b) : Sim (stdStringF src a) (stdStringF src b) := by
  have := strL_sim (src := src) (p := (nextch src a, true)) (q := (nextch src b, true)) ⟨h.next, rfl⟩
  unfold stdStringF
  rw [this.2]; exact this.1.setLit _ _
theorem Sim.rune {src : ByteArray} {a b : St} (h : Sim a b) : Sim (runeF src a) (runeF src b) := by
  have := runeL_sim (src := src) (p := (nextch src a, true, 0)) (q := (nextch src b, true, 0)) ⟨h.next, rfl⟩
  unfold runeF
  rw [this.2]; exact this.1.setLit _ _

/-! Names -/
theorem Sim.atId {f : Bool} {a b : St} (h : Sim a b) : RBS (atIdF f a) (atIdF f b) := by
  unfold atIdF
  rw [h.1.ch]
  split
  · exact ⟨rfl, h⟩
  · split
    · refine ⟨rfl, ?_⟩
      show Sim (if f = true then _ else _) (if f = true then _ else _)
      split
      · exact h.error _
      · exact h
    · split
      · exact ⟨rfl, h.error _⟩
      · exact ⟨rfl, h⟩
theorem Sim.idB {src : ByteArray} {a b : St} (h : Sim a b) : Sim (idBF src a) (idBF src b) :=
  runF_rel (R := Sim) (S := Sim) (body := Sc.idB src) (body' := Sc.idB src) (fun _ _ h => h.1.left src) (Sim.refl _) (fun a b h => ⟨by rw [(h.atId (f := false)).1], fun _ => (h.atId (f := false)).2.next, fun _ => (h.atId (f := false)).2⟩) h
theorem Sim.identEnd {src : ByteArray} {a b : St} (h : Sim a b) : Sim (identEnd src a) (identEnd src b) := by
  unfold Sc.identEnd
  rw [h.seg]
  split
  · obtain ⟨⟨m, ns, bb, rfl⟩, h2⟩ := h; exact ⟨⟨m, ns, bb, rfl⟩, h2⟩
  · obtain ⟨⟨m, ns, bb, rfl⟩, h2⟩ := h; exact ⟨⟨m, ns, bb, rfl⟩, h2⟩
theorem Sim.ident {src : ByteArray} {a b : St} (h : Sim a b) : Sim (identF src a) (identF src b) := by
  unfold identF
  rw [(h.skip (src := src) (c := cId)).1.ch]
  split
  · exact h.skip.idB.identEnd
  · exact h.skip.identEnd
end Sc
end Go.Proofs.YtogkcphobhhbdaaDoor

/- Plain: whatever the mode, next tells the same token. -/
namespace Go.Proofs.YtogkcphobhhbdaaDoor
open Go Go.RowKit Go.Lib
namespace Sc
open Ev
set_option maxRecDepth 100000

def R3 (p q : St × Int × Int) : Prop := Sim p.1 q.1 ∧ q.2 = p.2
def R2 (p q : St × Int) : Prop := Sim p.1 q.1 ∧ q.2 = p.2
theorem Sim.colIn {a b : St} (h : Sim a b) : colIn b = colIn a := by unfold Sc.colIn; rw [h.1.col0, h.1.col]
theorem digA1_sim {src : ByteArray} {mx : Int} {p q : St × Int × Int} (h : R3 p q) : TRel (StepRel R3 R3) (digA1 src mx p) (digA1 src mx q) := by
  obtain ⟨a, d, v⟩ := p
  obtain ⟨b, d', v'⟩ := q
  obtain ⟨h, he⟩ := h
  have h : Sim a b := h
  simp only [Prod.mk.injEq] at he
  obtain ⟨rfl, rfl⟩ := he
  have c := h.1.ch
  exact ⟨by show _ = (b.ch == 95); rw [c], fun _ => ⟨h.next, rfl⟩, fun _ => ⟨by show _ = decide (b.ch ≥ mx); rw [c], fun _ => ⟨rfl, fun _ => ⟨h.next, by show (_, Sc.colIn b) = (_, Sc.colIn a); rw [h.colIn]⟩, fun _ => ⟨h.next, rfl⟩⟩, fun _ => ⟨h.next, rfl⟩⟩⟩
theorem digA_sim {src : ByteArray} {mx : Int} {p q : St × Int × Int} (h : R3 p q) : R3 (digAF src mx p) (digAF src mx q) :=
  runF_rel (R := R3) (S := R3) (body := digA src mx) (body' := digA src mx) (fun _ _ h => h.1.1.left src) ⟨Sim.refl _, rfl⟩ (fun p q h => ⟨by rw [h.1.1.ch], fun _ => digA1_sim h, fun _ => ⟨by rw [h.1.1.ch], fun _ => digA1_sim h, fun _ => h⟩⟩) h
theorem digN1_sim {src : ByteArray} {mx : Int} {p q : St × Int} (h : R2 p q) : TRel (StepRel R2 R2) (digN1 src mx p) (digN1 src mx q) := by
  obtain ⟨a, d⟩ := p
  obtain ⟨b, d'⟩ := q
  obtain ⟨h, he⟩ := h
  have h : Sim a b := h
  have he : d' = d := he
  subst he
  have c := h.1.ch
  exact ⟨by show _ = (b.ch == 95); rw [c], fun _ => ⟨h.next, rfl⟩, fun _ => ⟨by show _ = decide (b.ch ≥ mx); rw [c], fun _ => trivial, fun _ => ⟨h.next, rfl⟩⟩⟩
theorem digN_sim {src : ByteArray} {p q : St × Int} (h : R2 p q) : R2 (digNF src p) (digNF src q) :=
  runF_rel (R := R2) (S := R2) (body := digN src 58) (body' := digN src 58) (fun _ _ h => h.1.1.left src) ⟨Sim.refl _, rfl⟩ (fun p q h => ⟨by rw [h.1.1.ch], fun _ => digN1_sim h, fun _ => ⟨by rw [h.1.1.ch], fun _ => digN1_sim h, fun _ => h⟩⟩) h
theorem digB_sim {src : ByteArray} {p q : St × Int} (h : R2 p q) : R2 (digBF src p) (digBF src q) := by
  refine runF_rel (R := R2) (S := R2) (fun _ _ h => h.1.1.left src) ⟨Sim.refl _, rfl⟩ (fun p q h => ?_) h
  obtain ⟨a, d⟩ := p
  obtain ⟨b, d'⟩ := q
  obtain ⟨h, he⟩ := h
  have h : Sim a b := h
  have he : d' = d := he
  subst he
  have c := h.1.ch
  exact ⟨by show _ = isHexF b.ch; rw [c], fun _ => ⟨by show _ = (b.ch == 95); rw [c], fun _ => ⟨h.next, rfl⟩, fun _ => ⟨h.next, rfl⟩⟩,
    fun _ => ⟨by show _ = (b.ch == 95); rw [c], fun _ => ⟨by show _ = (b.ch == 95); rw [c], fun _ => ⟨h.next, rfl⟩, fun _ => ⟨h.next, rfl⟩⟩, fun _ => ⟨h, rfl⟩⟩⟩
theorem Sim.digits {src : ByteArray} {b : Int} {x y : St} (h : Sim x y) (inv : Int) : R3 (digitsF src b x inv) (digitsF src b y inv) := by
  unfold digitsF
  split
  · exact digA_sim ⟨h, rfl⟩
  · have := digB_sim (src := src) (p := (x, 0)) (q := (y, 0)) ⟨h, rfl⟩
    exact ⟨this.1, by show (_, inv) = (_, inv); rw [this.2]⟩
/-- Numbers' states alike. -/
def NR (s t : NumS) : Prop := Sim s.st t.st ∧ t = { s with st := t.st }
theorem NR.mk' {a b : St} {ok seen : Bool} {k ba pr di iv : Int} (h : Sim a b) : NR ⟨a, ok, k, ba, pr, di, iv, seen⟩ ⟨b, ok, k, ba, pr, di, iv, seen⟩ := ⟨h, rfl⟩
theorem NR.open' {s t : NumS} (h : NR s t) : ∃ a b ok k ba pr di iv seen, Sim a b ∧ s = ⟨a, ok, k, ba, pr, di, iv, seen⟩ ∧ t = ⟨b, ok, k, ba, pr, di, iv, seen⟩ := by
  obtain ⟨a, ok, k, ba, pr, di, iv, seen⟩ := s
  obtain ⟨h1, h2⟩ := h
  exact ⟨a, t.st, ok, k, ba, pr, di, iv, seen, h1, rfl, h2⟩
theorem n1_sim {src : ByteArray} {base pre d0 : Int} {r s : St × Int × Int} (h : R3 r s) : TRel NR (n1T src base pre d0 r) (n1T src base pre d0 s) := by
  obtain ⟨a, d, v⟩ := r
  obtain ⟨b, d', v'⟩ := s
  obtain ⟨h, he⟩ := h
  have h : Sim a b := h
  simp only [Prod.mk.injEq] at he
  obtain ⟨rfl, rfl⟩ := he
  have c := h.1.ch
  exact ⟨by show _ = (b.ch == 46); rw [c], fun _ => ⟨rfl, fun _ => ⟨(h.error _).next, rfl⟩, fun _ => ⟨rfl, fun _ => ⟨(h.error _).next, rfl⟩, fun _ => ⟨h.next, rfl⟩⟩⟩, fun _ => ⟨h, rfl⟩⟩
theorem p1F_sim {src : ByteArray} {a b : St} (h : Sim a b) : TRel NR (p1FT src a) (p1FT src b) :=
  ⟨by rw [h.1.ch], fun _ => ⟨by rw [h.next.1.ch], fun _ => n1_sim (h.next.next.digits _), fun _ => ⟨by rw [h.next.1.ch], fun _ => n1_sim (h.next.next.digits _), fun _ => ⟨by rw [h.next.1.ch], fun _ => n1_sim (h.next.next.digits _), fun _ => n1_sim (h.next.digits _)⟩⟩⟩, fun _ => n1_sim (h.digits _)⟩
theorem p2_sim {src : ByteArray} {s t : NumS} (h : NR s t) : TRel NR (p2T src s) (p2T src t) := by
  obtain ⟨a, b, ok, k, ba, pr, di, iv, seen, hq, rfl, rfl⟩ := h.open'
  have h := hq
  have hd := h.digits (src := src) (b := ba) iv
  refine ⟨rfl, fun _ => ⟨hd.1, ?_⟩, fun _ => ⟨h, rfl⟩⟩
  show NumS.mk _ _ _ _ _ _ _ _ = NumS.mk _ _ _ _ _ _ _ _
  simp only [hd.2]
theorem p3_sim {s t : NumS} (h : NR s t) : TRel NR (p3T s) (p3T t) := by
  obtain ⟨a, b, ok, k, ba, pr, di, iv, seen, hq, rfl, rfl⟩ := h.open'
  have h := hq
  exact ⟨rfl, fun _ => ⟨rfl, fun _ => ⟨h.error _, rfl⟩, fun _ => ⟨h, rfl⟩⟩, fun _ => ⟨h, rfl⟩⟩
theorem expDig_sim {src : ByteArray} {s t : NumS} {x y : St} (h : NR s t) (hx : Sim x y) : TRel NR (expDigT src s x) (expDigT src t y) := by
  obtain ⟨a, b, ok, k, ba, pr, di, iv, seen, hq, rfl, rfl⟩ := h.open'
  have h := hq
  have hd := digN_sim (src := src) (p := (x, 0)) (q := (y, 0)) ⟨hx, rfl⟩
  have e := hd.2
  unfold expDigT
  rw [e]
  exact ⟨rfl, fun _ => ⟨rfl, fun _ => ⟨hd.1.error _, rfl⟩, fun _ => ⟨hd.1, rfl⟩⟩, fun _ => ⟨hd.1, rfl⟩⟩
theorem expSign_sim {src : ByteArray} {s t : NumS} (h : NR s t) : TRel NR (expSignT src s) (expSignT src t) :=
  ⟨by rw [h.1.next.1.ch], fun _ => expDig_sim h h.1.next.next, fun _ => ⟨by rw [h.1.next.1.ch], fun _ => expDig_sim h h.1.next.next, fun _ => expDig_sim h h.1.next⟩⟩
theorem noExp_sim {s t : NumS} (h : NR s t) : TRel NR (noExpT s) (noExpT t) := by
  obtain ⟨a, b, ok, k, ba, pr, di, iv, seen, hq, rfl, rfl⟩ := h.open'
  have h := hq
  exact ⟨rfl, fun _ => ⟨rfl, fun _ => ⟨rfl, fun _ => ⟨h.error _, rfl⟩, fun _ => ⟨h, rfl⟩⟩, fun _ => ⟨h, rfl⟩⟩, fun _ => ⟨h, rfl⟩⟩
theorem expErr_sim {s t : NumS} {x : Int} (h : NR s t) : NR (expErr (s, x)) (expErr (t, x)) := by
  obtain ⟨a, b, ok, k, ba, pr, di, iv, seen, hq, rfl, rfl⟩ := h.open'
  have h := hq
  unfold expErr
  simp only
  split
  · exact ⟨h.error _, rfl⟩
  · split
    · exact ⟨h.error _, rfl⟩
    · exact ⟨h, rfl⟩
theorem p4_sim {src : ByteArray} {B : Prop} {s t : NumS} (h : NR s t) : TRel NR (p4T src B s) (p4T src B t) := by
  have c := h.1.1.ch
  have ok : t.ok = s.ok := by rw [h.2]
  unfold p4T
  rw [c, ok]
  exact ⟨rfl, fun _ => ⟨rfl, fun _ => expSign_sim (expErr_sim h), fun _ => expSign_sim h⟩, fun _ => ⟨rfl, fun _ => ⟨rfl, fun _ => expSign_sim (expErr_sim h), fun _ => expSign_sim h⟩, fun _ => noExp_sim h⟩⟩
theorem p45_sim {src : ByteArray} {s t : NumS} (h : NR s t) : TRel NR (p45T src s) (p45T src t) := by
  obtain ⟨a, b, ok, k, ba, pr, di, iv, seen, hq, rfl, rfl⟩ := h.open'
  have h := hq
  have c := h.1.ch
  exact ⟨by show _ = (b.ch == 105); rw [c], fun _ => ⟨h.next, rfl⟩, fun _ => ⟨h, rfl⟩⟩
theorem p5_sim {src : ByteArray} {s t : NumS} (h : NR s t) : TRel NR (p5T src s) (p5T src t) := by
  obtain ⟨a, b, ok, k, ba, pr, di, iv, seen, hq, rfl, rfl⟩ := h.open'
  have h := hq
  have hl := h.setLit (src := src) k ok
  exact ⟨rfl, fun _ => ⟨rfl, fun _ => ⟨rfl, fun _ => ⟨hl.errorAtF _ _, rfl⟩, fun _ => ⟨hl, rfl⟩⟩, fun _ => ⟨hl, rfl⟩⟩, fun _ => ⟨hl, rfl⟩⟩
theorem p6_sim {s t : NumS} (h : NR s t) : TRel NR (p6T s) (p6T t) := by
  obtain ⟨a, b, ok, k, ba, pr, di, iv, seen, hq, rfl, rfl⟩ := h.open'
  have h := hq
  have l : b.lit = a.lit := h.1.lit
  unfold p6T
  simp only [l]
  exact ⟨rfl, fun _ => ⟨rfl, fun _ => ⟨rfl, fun _ => ⟨h.errorAtF _ _, rfl⟩, fun _ => ⟨h, rfl⟩⟩, fun _ => ⟨h, rfl⟩⟩, fun _ => ⟨h, rfl⟩⟩
theorem numTail_sim {src : ByteArray} {s t : NumS} (h : NR s t) : TRel NR (numTail src True Tree.leaf s) (numTail src True Tree.leaf t) :=
  trel_bind (fun _ _ h => trel_bind (fun _ _ h => trel_bind (fun _ _ h => trel_bind (fun _ _ h => trel_bind (fun _ _ h => trel_bind (fun _ _ h => h) _ _ (p6_sim h)) _ _ (p5_sim h)) _ _ (p45_sim h)) _ _ (p4_sim h)) _ _ (p3_sim h)) _ _ (p2_sim h)
theorem Sim.numS {src : ByteArray} {seen : Bool} {a b : St} (h : Sim a b) : NR (numS src seen a) (numS src seen b) := by
  unfold Sc.numS
  refine trel_get (R := NR) ⟨Sim.refl _, rfl⟩ _ _ ?_
  unfold numTree
  split
  · exact numTail_sim ⟨h, rfl⟩
  · exact trel_bind (fun _ _ h => numTail_sim h) _ _ (p1F_sim h)
theorem Sim.number {src : ByteArray} {seen : Bool} {a b : St} (h : Sim a b) : Sim (numberF src seen a) (numberF src seen b) := by
  have := h.numS (src := src) (seen := seen)
  unfold numberF numRes
  have ok : (Sc.numS src seen b).ok = (Sc.numS src seen a).ok := by rw [this.2]
  rw [ok]
  obtain ⟨⟨⟨m, ns, bb, h1⟩, h2⟩, _⟩ := this
  refine ⟨⟨m, ns, bb, ?_⟩, h2⟩
  rw [h1]
theorem Sim.rewind {src : ByteArray} {a b : St} (h : Sim a b) : Sim (rewind src a) (rewind src b) := by
  have h2 := h.2
  obtain ⟨⟨m, ns, bb, rfl⟩, _⟩ := h
  have h2 : bb = a.b := h2
  subst h2
  exact Sim.next ⟨⟨m, ns, a.b, rfl⟩, rfl⟩

/-! A pass, and next -/
/-- Ends of a pass alike; behind a remark the segment's beginning may differ. -/
def FinR : Fin → Fin → Prop
  | .done s _, .done s' _ => SimB s s'
  | .redo s, .redo s' => SimB s s'
  | .asg s, .asg s' => SimB s s'
  | _, _ => False
theorem Sim.tk {a b : St} (h : Sim a b) (t : Int) : Sim (tk t a) (tk t b) := h.upd (Sc.tk t) (fun _ _ _ _ => rfl) (fun _ => rfl)
theorem SimB.tk {a b : St} (h : SimB a b) (t : Int) : SimB (Sc.tk t a) (Sc.tk t b) := h.upd (Sc.tk t) (fun _ _ _ _ => rfl)
theorem SimB.lit' {a b : St} (h : SimB a b) (w : ByteArray) : SimB (Sc.lit w a) (Sc.lit w b) := h.upd (Sc.lit w) (fun _ _ _ _ => rfl)
theorem Sim.opr {a b : St} (h : Sim a b) (o p : Int) : Sim (opr o p a) (opr o p b) := h.upd (Sc.opr o p) (fun _ _ _ _ => rfl) (fun _ => rfl)
theorem Sim.semi {a b : St} (h : Sim a b) : Sim (semi a) (semi b) := h.upd Sc.semi (fun _ _ _ _ => rfl) (fun _ => rfl)
theorem sw_sim {src : ByteArray} {nl : Bool} {a b : St} (h : Sim a b) : TRel FinR (swT src nl a) (swT src nl b) := by
  have c := h.1.ch
  have n1 := h.next (src := src)
  have c1 := n1.1.ch
  have n2 := n1.next (src := src)
  have c2 := n2.1.ch
  have n3 := n2.next (src := src)
  have num : TRel FinR (swNum src false a) (swNum src false b) := h.number.1
  have f1 : ∀ {t : Int} {x y : St}, Sim x y → TRel FinR (sw1 t x) (sw1 t y) := fun h => (h.tk _).1
  have f4 : ∀ {o p : Int} {x y : St}, Sim x y → TRel FinR (sw4 o p x) (sw4 o p y) := fun h => ((h.opr _ _).tk _).1
  have fA : ∀ {o p : Int} {x y : St}, Sim x y → TRel FinR (swA o p x) (swA o p y) := fun h => (h.opr _ _).1
  have fc := n2.1.fullComment (src := src)
  unfold swT
  rw [c, c1, c2, fc.line0, fc.line]
  refine ⟨rfl, fun _ => ⟨rfl, fun _ => h.1.lit' _, fun _ => f1 h⟩, fun _ => ⟨rfl, fun _ => n1.1.lit' _, fun _ => ?_⟩⟩
  refine ⟨rfl, fun _ => num, fun _ => ⟨rfl, fun _ => num, fun _ => ⟨rfl, fun _ => num, fun _ => ⟨rfl, fun _ => num, fun _ => ⟨rfl, fun _ => num, fun _ => ?_⟩⟩⟩⟩⟩
  refine ⟨rfl, fun _ => num, fun _ => ⟨rfl, fun _ => num, fun _ => ⟨rfl, fun _ => num, fun _ => ⟨rfl, fun _ => num, fun _ => ⟨rfl, fun _ => num, fun _ => ?_⟩⟩⟩⟩⟩
  refine ⟨rfl, fun _ => h.str.1, fun _ => ⟨rfl, fun _ => h.raw.1, fun _ => ⟨rfl, fun _ => h.rune.1, fun _ => ?_⟩⟩⟩
  refine ⟨rfl, fun _ => f1 n1, fun _ => ⟨rfl, fun _ => f1 n1, fun _ => ⟨rfl, fun _ => f1 n1, fun _ => ⟨rfl, fun _ => f1 n1, fun _ => ⟨rfl, fun _ => n1.1.lit' _, fun _ => ?_⟩⟩⟩⟩⟩
  refine ⟨rfl, fun _ => f1 n1.semi, fun _ => ⟨rfl, fun _ => f1 n1.semi, fun _ => ⟨rfl, fun _ => f1 n1.semi, fun _ => ?_⟩⟩⟩
  refine ⟨rfl, fun _ => ⟨rfl, fun _ => f1 n2, fun _ => f1 n1⟩, fun _ => ?_⟩
  refine ⟨rfl, fun _ => ⟨rfl, fun _ => n1.number.1, fun _ => ⟨rfl, fun _ => ⟨rfl, fun _ => f1 n3, fun _ => f1 n2.rewind.next⟩, fun _ => f1 n1⟩⟩, fun _ => ?_⟩
  refine ⟨rfl, fun _ => ⟨rfl, fun _ => fA n1, fun _ => f1 ((n1.opr _ _).next.semi)⟩, fun _ => ⟨rfl, fun _ => ⟨rfl, fun _ => fA n1, fun _ => f1 ((n1.opr _ _).next.semi)⟩, fun _ => ?_⟩⟩
  refine ⟨rfl, fun _ => ⟨rfl, fun _ => f1 (n1.opr _ _).next, fun _ => f1 (n1.opr _ _)⟩, fun _ => ?_⟩
  refine ⟨rfl, fun _ => ⟨rfl, fun _ => n2.1.lineComment, fun _ => ⟨rfl, fun _ => ⟨rfl, fun _ => ⟨rfl, fun _ => fc.lit' _, fun _ => fc⟩, fun _ => fc⟩, fun _ => fA n1⟩⟩, fun _ => ?_⟩
  refine ⟨rfl, fun _ => fA n1, fun _ => ⟨rfl, fun _ => ⟨rfl, fun _ => f4 n2, fun _ => ⟨rfl, fun _ => ?_, fun _ => fA n1⟩⟩, fun _ => ?_⟩⟩
  · exact ((n1.opr 20 5).next (src := src)).1.upd (fun s => { s with op := 21 }) (fun _ _ _ _ => rfl)
  refine ⟨rfl, fun _ => ⟨rfl, fun _ => f4 n2, fun _ => fA n1⟩, fun _ => ⟨rfl, fun _ => fA n1, fun _ => ?_⟩⟩
  refine ⟨rfl, fun _ => ⟨rfl, fun _ => f4 n2, fun _ => ⟨rfl, fun _ => fA n2, fun _ => ⟨rfl, fun _ => f1 n2, fun _ => f4 n1⟩⟩⟩, fun _ => ?_⟩
  refine ⟨rfl, fun _ => ⟨rfl, fun _ => f4 n2, fun _ => ⟨rfl, fun _ => fA n2, fun _ => f4 n1⟩⟩, fun _ => ?_⟩
  refine ⟨rfl, fun _ => ⟨rfl, fun _ => f4 n2, fun _ => f1 n1⟩, fun _ => ?_⟩
  refine ⟨rfl, fun _ => ⟨rfl, fun _ => f4 n2, fun _ => f4 n1⟩, fun _ => ⟨rfl, fun _ => f4 n1, fun _ => (h.error _).next.1⟩⟩
theorem hd_sim {src : ByteArray} {nl : Bool} {a b : St} (h : Sim a b) : TRel FinR (hdT src (fun s => Fin.done s []) (swT src nl) a) (hdT src (fun s => Fin.done s []) (swT src nl) b) := by
  have hi := h.atId (f := true)
  exact ⟨by rw [h.1.ch], fun _ => h.next.ident.1, fun _ => ⟨by rw [h.1.ch], fun _ => ⟨by rw [hi.1], fun _ => hi.2.next.ident.1, fun _ => sw_sim hi.2⟩, fun _ => sw_sim h⟩⟩
theorem nxSt_sim {bl : Bool} {a b : St} (h : SimB a b) : Sim (nxSt bl a) (nxSt bl b) := by
  obtain ⟨m, ns, bb, rfl⟩ := h
  exact ⟨⟨m, ns, some (a.p - a.chw), rfl⟩, rfl⟩
theorem pass_sim {src : ByteArray} {nl : Bool} {a b : St} (h : SimB a b) : TRel FinR (passT src nl a) (passT src nl b) := by
  have hs : SimB (skip src (cBlank nl) (stop a)) (skip src (cBlank nl) (stop b)) := (((simB_stop a).symm.trans h).trans (simB_stop b)).skip
  unfold passT tailT
  rw [h.line0, h.col0, hs.line0]
  exact hd_sim (nxSt_sim hs)
theorem asg_sim {src : ByteArray} {a b : St} (h : SimB a b) : SimB (asgF src a) (asgF src b) := by
  unfold asgF
  rw [h.ch]
  split
  · exact h.next.tk 5
  · exact h.tk 4
theorem nextB_sim {src : ByteArray} {nl : Bool} {a b : St} (h : SimB a b) : TRel (StepRel SimB (fun (x y : St × List Value) => SimB x.1 y.1)) (nextB src nl a) (nextB src nl b) := by
  refine trel_bind (fun f g hf => ?_) _ _ (pass_sim h)
  cases f with
  | done s bx => cases g with
    | done s' bx' => exact hf
    | _ => exact hf.elim
  | redo s => cases g with
    | redo s' => exact hf
    | _ => exact hf.elim
  | asg s => cases g with
    | asg s' => exact asg_sim (a := s) (b := s') hf
    | _ => exact hf.elim
/-- Whatever the mode and what was told: next goes alike. -/
theorem nextF_sim {src : ByteArray} {a b : St} (h : SimB a b) : SimB (nextF src a).1 (nextF src b).1 := by
  unfold nextF
  rw [h.nlsemi]
  refine runF_rel (R := SimB) (S := fun (x y : St × List Value) => SimB x.1 y.1) (fun _ _ h => h.left src) (SimB.refl _) (fun _ _ h => nextB_sim h) ?_
  exact h.upd (fun s => { s with nlsemi := false }) (fun _ _ _ _ => rfl)
end Sc
end Go.Proofs.YtogkcphobhhbdaaDoor

/- Plain: the tokens of a text: how they end, how they lie, that no mode changes them. -/
namespace Go.Proofs.YtogkcphobhhbdaaDoor
open Go Go.RowKit Go.Lib
namespace Sc
open Ev
set_option maxRecDepth 100000

/-- The states behind each token, up to the text's end. -/
def toksN (src : ByteArray) : Nat → St → List St
  | 0, _ => []
  | n + 1, st => if (nextF src st).1.tok = 1 then [(nextF src st).1] else (nextF src st).1 :: toksN src n (nextF src st).1
def meas (src : ByteArray) (st : St) : Nat := 2 * left src st + (if st.nlsemi = true then 1 else 0)
def toks (src : ByteArray) (m : Int) : List St := toksN src (meas src (stI m) + 1) (stI m)

/-- What holds ahead of each token. -/
structure Iv (src : ByteArray) (st : St) : Prop where
  sz : src.size ≤ 2048
  pos : Pos0 src st
  kp : Kp st
  op : Rop st
theorem Iv.le {src : ByteArray} {st : St} (h : Iv src st) : st.p ≤ src.size := by
  rcases h.pos with h1 | h1
  · exact h1.n
  · exact h1.2
theorem iv_next {src : ByteArray} {st : St} (h : Iv src st) : Iv src (nextF src st).1 ∧ Rk (nextF src st).1 ∧ TokAt st (nextF src st).1 ∧ ((nextF src st).1.tok ≠ 1 → meas src (nextF src st).1 < meas src st) := by
  obtain ⟨h1, h2, h3, h4⟩ := nextF_sat h.pos h.sz
  have hk := nextF_rk h.pos h.sz h.op
  refine ⟨⟨h.sz, .inl h1, (h2.kp h.sz h.kp).1, hk.2⟩, hk, h4, fun hne => ?_⟩
  have hl := h2.left
  rcases h3 with h3 | h3 | ⟨h5, h6⟩
  · exact absurd h3 hne
  · unfold meas; split <;> split <;> omega
  · unfold meas; rw [if_pos h5, if_neg (by rw [h6]; decide)]; omega
theorem iv_start (src : ByteArray) (m : Int) (hs : src.size ≤ 2048) : Iv src (stI m) :=
  ⟨hs, .inr ⟨rfl, Nat.zero_le _⟩, ⟨by show (0 : Int) ≤ 0; decide, by show (0 : Int) ≤ 0; decide, by show (0 : Int) + (0 : Nat) ≤ (0 : Nat); decide, by show (0 : Int) + 2 * (0 : Nat) ≤ 2 * (0 : Nat); decide⟩, ⟨by show (0 : Int) ≤ 0; decide, by show (0 : Int) ≤ 23; decide⟩⟩

/-- No earlier than a place. -/
def Ord (l c : Int) (s : St) : Prop := l < s.line ∨ (l = s.line ∧ c ≤ s.col)
/-- A token that has a name, and a place of no size. -/
structure Tk (s : St) : Prop where
  rk : Rk s
  l0 : 1 ≤ s.line
  l1 : s.line ≤ 5000
  c0 : 1 ≤ s.col
  c1 : s.col ≤ 5000
inductive Good : Int → Int → List St → Prop
  | last {l c : Int} {s : St} : s.tok = 1 → Ord l c s → Tk s → Good l c [s]
  | more {l c : Int} {s : St} {t : List St} : s.tok ≠ 1 → Ord l c s → Tk s → Good s.line s.col t → Good l c (s :: t)
theorem toksN_good {src : ByteArray} : ∀ (n : Nat) (st : St) (l c : Int), Iv src st → meas src st < n → (l < 1 + st.line0 ∨ (l = 1 + st.line0 ∧ c ≤ 1 + st.col0)) → Good l c (toksN src n st)
  | 0, _, _, _, _, h, _ => absurd h (Nat.not_lt_zero _)
  | n + 1, st, l, c, hI, hm, ho => by
    obtain ⟨hI', hk, ht, hlt⟩ := iv_next hI
    obtain ⟨s0, k0, k9, x1, x2, e1, e2⟩ := ht hI.kp
    have b1 := k0.l0; have b2 := k0.c0; have b7 := k0.c; have b8 := k0.l
    have e1 : (nextF src st).1.line = 1 + s0.line0 := e1.trans (u64_small (by omega) (by omega))
    have e2 : (nextF src st).1.col = 1 + s0.col0 := e2.trans (u64_small (by omega) (by omega))
    have tk : Tk (nextF src st).1 := ⟨hk, by omega, by omega, by omega, by omega⟩
    have od : Ord l c (nextF src st).1 := by unfold Ord; unfold Lx at x1; omega
    rw [toksN]
    by_cases h1 : (nextF src st).1.tok = 1
    · rw [if_pos h1]; exact .last h1 od tk
    · rw [if_neg h1]
      exact .more h1 od tk (toksN_good n _ _ _ hI' (by have := hlt h1; omega) (by rw [e1, e2]; unfold Lx at x2; omega))
theorem toks_good {src : ByteArray} (m : Int) (hs : src.size ≤ 2048) : Good 1 1 (toks src m) :=
  toksN_good _ _ _ _ (iv_start src m hs) (Nat.lt_succ_self _) (.inr ⟨rfl, by show (1 : Int) ≤ 1 + 0; decide⟩)

/-- What holds at each place of the list. -/
theorem Good.ne {l c : Int} {L : List St} (h : Good l c L) : L ≠ [] := by cases h <;> simp
theorem Good.at {l c : Int} {L : List St} (h : Good l c L) : ∀ (i : Nat) (s : St), L[i]? = some s → Tk s ∧ (s.tok = 1 ↔ i + 1 = L.length) ∧ (∀ r, 0 < i → L[i - 1]? = some r → Ord r.line r.col s) := by
  induction h with
  | last h1 h2 h3 =>
    intro i s hi
    cases i with
    | zero => simp only [List.getElem?_cons_zero, Option.some.injEq] at hi; subst hi; exact ⟨h3, by simp [h1], fun r hr => absurd hr (Nat.lt_irrefl _)⟩
    | succ i => simp at hi
  | @more l c s0 t h1 h2 h3 h4 ih =>
    intro i s hi
    cases i with
    | zero =>
      simp only [List.getElem?_cons_zero, Option.some.injEq] at hi; subst hi
      have := h4.ne
      have hl : t.length ≠ 0 := fun e => this (List.eq_nil_of_length_eq_zero e)
      exact ⟨h3, by simp only [List.length_cons]; constructor <;> intro hh <;> omega, fun r hr => absurd hr (Nat.lt_irrefl _)⟩
    | succ i =>
      simp only [List.getElem?_cons_succ] at hi
      obtain ⟨g1, g2, g3⟩ := ih i s hi
      refine ⟨g1, by simp only [List.length_cons]; rw [g2]; omega, fun r _ hr => ?_⟩
      cases i with
      | zero =>
        simp only [Nat.zero_add, Nat.sub_self, List.getElem?_cons_zero, Option.some.injEq] at hr
        subst hr
        cases h4 with
        | last _ ho _ => simp only [List.getElem?_cons_zero, Option.some.injEq] at hi; subst hi; exact ho
        | more _ ho _ _ => simp only [List.getElem?_cons_zero, Option.some.injEq] at hi; subst hi; exact ho
      | succ i =>
        simp only [Nat.add_sub_cancel, List.getElem?_cons_succ] at hr
        exact g3 r (Nat.succ_pos _) (by simpa using hr)

/-! No mode changes tokens. -/
theorem SimB.meas (src : ByteArray) {a b : St} (h : SimB a b) : meas src b = meas src a := by unfold Sc.meas; rw [h.left src, h.nlsemi]
inductive AllSim : List St → List St → Prop
  | nil : AllSim [] []
  | cons {a b : St} {l k : List St} : SimB a b → AllSim l k → AllSim (a :: l) (b :: k)
theorem toksN_sim {src : ByteArray} : ∀ (n : Nat) {a b : St}, SimB a b → AllSim (toksN src n a) (toksN src n b)
  | 0, _, _, _ => .nil
  | n + 1, a, b, h => by
    have hn := nextF_sim (src := src) h
    rw [toksN, toksN, hn.tok]
    split
    · exact .cons hn .nil
    · exact .cons hn (toksN_sim n hn)
theorem toks_sim (src : ByteArray) (m m' : Int) : AllSim (toks src m) (toks src m') := by
  have h : SimB (stI m) (stI m') := ⟨m', [], none, rfl⟩
  unfold toks
  rw [h.meas src]
  exact toksN_sim _ h
theorem AllSim.length {L K : List St} (h : AllSim L K) : K.length = L.length := by
  induction h with
  | nil => rfl
  | cons _ _ ih => simp [ih]
theorem AllSim.at {L K : List St} (h : AllSim L K) : ∀ (i : Nat) (a b : St), L[i]? = some a → K[i]? = some b → SimB a b := by
  induction h with
  | nil => intro i a b h1; simp at h1
  | cons hs _ ih =>
    intro i a b h1 h2
    cases i with
    | zero => simp only [List.getElem?_cons_zero, Option.some.injEq] at h1 h2; subst h1; subst h2; exact hs
    | succ i => simp only [List.getElem?_cons_succ] at h1 h2; exact ih i a b h1 h2

/-! What is told is little. -/
theorem toksN_len {src : ByteArray} : ∀ (n : Nat) (st : St), (toksN src n st).length ≤ n
  | 0, _ => Nat.le_refl _
  | n + 1, st => by
    rw [toksN]
    split
    · simp
    · have := toksN_len n (nextF src st).1 (src := src)
      simp; omega
theorem toks_len (src : ByteArray) (m : Int) (hs : src.size ≤ 2048) : (toks src m).length ≤ 9000 := by
  have := toksN_len (src := src) (meas src (stI m) + 1) (stI m)
  have h2 : meas src (stI m) ≤ 8196 := by
    have : left src (stI m) = 2 * (src.size - 0) + 1 := rfl
    unfold meas
    rw [if_neg (show ¬ (stI m).nlsemi = true from fun h => by cases h)]
    omega
  unfold toks
  omega
end Sc
end Go.Proofs.YtogkcphobhhbdaaDoor

/- Plain: how much is told at the most. -/
namespace Go.Proofs.YtogkcphobhhbdaaDoor
open Go Go.RowKit Go.Lib
namespace Sc
open Ev
set_option maxRecDepth 100000

theorem readAt_cnt (src : ByteArray) (line : Int) : ∀ (f : Nat) (fresh : Bool) (p : Nat) (col : Int) (ns : List Note), (readAt src line f fresh p col ns).notes.length + p ≤ ns.length + (readAt src line f fresh p col ns).p
  | 0, _, p, col, ns => by simp [readAt]
  | f + 1, fresh, p, col, ns => by
    have d1 := dec_pos src p
    simp only [readAt]
    by_cases hp : p < src.size
    · simp only [if_pos hp]
      split
      · split
        · have := readAt_cnt src line f false (p + 1) (u64 (col + 1)) (ns ++ [⟨u64 (1 + line), u64 (1 + col), msgNUL⟩])
          simp only [List.length_append, List.length_singleton] at this; omega
        · simp only; omega
      · split
        · have := readAt_cnt src line f false (p + 1) (u64 (col + 1)) (ns ++ [⟨u64 (1 + line), u64 (1 + col), msgUTF⟩])
          simp only [List.length_append, List.length_singleton] at this; omega
        · split
          · have := readAt_cnt src line f false (p + (Utf8.decode src p).2) (u64 (col + (Utf8.decode src p).2)) (if line > 0 ∨ col > 0 then ns ++ [⟨u64 (1 + line), u64 (1 + col), msgBOM⟩] else ns)
            have h2 : (if line > 0 ∨ col > 0 then ns ++ [⟨u64 (1 + line), u64 (1 + col), msgBOM⟩] else ns : List Note).length ≤ ns.length + 1 := by split <;> simp
            omega
          · simp only; omega
    · simp only [if_neg hp]; omega
/-- Not more is told than this, for what was read. -/
def Cn (src : ByteArray) (J : Nat) (a b : St) : Prop := b.notes.length + 5000 * left src b ≤ a.notes.length + 5000 * left src a + J
theorem Cn.refl (src : ByteArray) (a : St) : Cn src 0 a a := Nat.le_refl _
theorem Cn.trans {src : ByteArray} {J K : Nat} {a b c : St} (h : Cn src J a b) (h' : Cn src K b c) : Cn src (J + K) a c := by unfold Cn at *; omega
theorem Cn.weak {src : ByteArray} {J K : Nat} {a b : St} (h : Cn src J a b) (hJ : J ≤ K) : Cn src K a b := by unfold Cn at *; omega
theorem cn_same {src : ByteArray} {a b : St} (e1 : b.notes = a.notes) (e2 : left src b = left src a) : Cn src 0 a b := by unfold Cn; rw [e1, e2]; exact Nat.le_refl _
theorem cn_errAt (src : ByteArray) (l c : Int) (m : ByteArray) (st : St) : Cn src 1 st (errAt l c m st) := by
  unfold Cn
  have : (errAt l c m st).notes.length = st.notes.length + 1 := by simp [errAt]
  have e : left src (errAt l c m st) = left src st := rfl
  rw [this, e]; omega
theorem cn_error (src : ByteArray) (m : ByteArray) (st : St) : Cn src 1 st (error m st) := cn_errAt src _ _ m st
theorem cn_errorAt (src : ByteArray) (o : Int) (m : ByteArray) (st : St) : Cn src 1 st (errorAtF o m st) := cn_errAt src _ _ m st
theorem cn_next1 (src : ByteArray) (st : St) (h : ¬ st.ch = -1) : (nextch src st).notes.length + 5000 * left src (nextch src st) + 5000 ≤ st.notes.length + 5000 * left src st := by
  have hl := nextch_left src st h
  have e1 : (nextch src st).p = (readAt src (nlLine st) (src.size + 1) st.fresh st.p (nlCol st) st.notes).p := rfl
  have e2 : (nextch src st).notes = (readAt src (nlLine st) (src.size + 1) st.fresh st.p (nlCol st) st.notes).notes := rfl
  have hc := readAt_cnt src (nlLine st) (src.size + 1) st.fresh st.p (nlCol st) st.notes
  rw [← e1, ← e2] at hc
  by_cases hp : st.p < src.size
  · have hr := readAt_on src (nlLine st) src.size st.fresh st.p (nlCol st) st.notes hp
    rw [← e1] at hr
    have : left src (nextch src st) + 2 * ((nextch src st).p - st.p) ≤ left src st := by
      unfold left; rw [if_neg h]; split <;> omega
    omega
  · have hr := readAt_end src (nlLine st) src.size st.fresh st.p (nlCol st) st.notes hp
    have e3 : (nextch src st).notes = st.notes := by rw [e2, hr]
    rw [e3]; omega
theorem cn_next (src : ByteArray) (st : St) : Cn src 0 st (nextch src st) := by
  by_cases h : st.ch = -1
  · have hl := nextch_le src st
    have e1 : (nextch src st).p = (readAt src (nlLine st) (src.size + 1) st.fresh st.p (nlCol st) st.notes).p := rfl
    have e2 : (nextch src st).notes = (readAt src (nlLine st) (src.size + 1) st.fresh st.p (nlCol st) st.notes).notes := rfl
    have hc := readAt_cnt src (nlLine st) (src.size + 1) st.fresh st.p (nlCol st) st.notes
    rw [← e1, ← e2] at hc
    unfold Cn
    by_cases hp : st.p < src.size
    · have hr := readAt_on src (nlLine st) src.size st.fresh st.p (nlCol st) st.notes hp
      rw [← e1] at hr
      have : left src (nextch src st) + ((nextch src st).p - st.p) ≤ left src st := by
        unfold left; rw [if_pos h]; split <;> omega
      omega
    · have hr := readAt_end src (nlLine st) src.size st.fresh st.p (nlCol st) st.notes hp
      have e3 : (nextch src st).notes = st.notes := by rw [e2, hr]
      rw [e3]; omega
  · have := cn_next1 src st h
    unfold Cn; omega
/-- A little debt is paid by one character. -/
theorem cn_pay {src : ByteArray} {J : Nat} {a b : St} (h : Cn src J a b) (hb : ¬ b.ch = -1) (hJ : J ≤ 5000) : Cn src 0 a (nextch src b) := by
  have := cn_next1 src b hb
  unfold Cn at *; omega
theorem cn_pay' {src : ByteArray} {J : Nat} {a b : St} (ha : ¬ a.ch = -1) (h : Cn src J (nextch src a) b) (hJ : J ≤ 5000) : Cn src 0 a b := by
  have := cn_next1 src a ha
  unfold Cn at *; omega
theorem Cn.next {src : ByteArray} {J : Nat} {a b : St} (h : Cn src J a b) : Cn src J a (nextch src b) := h.trans (cn_next src b)
theorem cn_skip (src : ByteArray) (c : Int → Bool) (st : St) : Cn src 0 st (skip src c st) := skip_ind src c (P := fun s => Cn src 0 st s) (fun s h _ => h.next) st (Cn.refl _ _)

theorem cn_stars (src : ByteArray) (st : St) : Cn src 0 st (starsF src st).2 := by
  unfold starsF
  refine runF_sat (body := starsB src) (μ := left src) (fun a => Cn src 0 st a) (P := fun (b : Bool × St) => Cn src 0 st b.2) (fun a ha => ⟨fun h => ⟨fun h2 => ha.next.next, fun _ => ⟨ha.next, nextch_left src a (fun e => by rw [e] at h; cases h)⟩⟩, fun _ => ha⟩) st (Cn.refl _ _)
theorem cn_sc (src : ByteArray) (st : St) : Cn src 0 st (scF src st).2 := by
  unfold scF
  refine runF_sat (body := scB src) (μ := left src) (fun a => Cn src 0 st a) (P := fun (b : Bool × St) => Cn src 0 st b.2) (fun a ha => ?_) st (Cn.refl _ _)
  have on := scB_on src a
  exact ⟨fun h => ⟨fun h2 => ha.trans (cn_stars src a), fun h2 => ⟨(ha.trans (cn_stars src a)).next, (on.1 h).2 h2⟩⟩, fun _ => ha⟩
theorem cn_skipComment (src : ByteArray) (st : St) : Cn src 1 st (skipCommentF src st).2 := by
  unfold skipCommentF
  split
  · exact (cn_sc src st).weak (by decide)
  · exact (cn_sc src st).trans (cn_errorAt _ _ _ _)
theorem cn_pfx (src : ByteArray) : ∀ (rs : List Int) (st : St), Cn src 0 st (pfxF src rs st).2
  | [], st => Cn.refl _ _
  | r :: rs, st => by
    simp only [pfxF]
    split
    · exact (cn_next src st).trans (cn_pfx src rs _)
    · exact Cn.refl _ _
theorem cn_pfxGo {src s : ByteArray} {φ ψ : St → St} {J : Nat} (hφ : ∀ st, Cn src J st (φ st)) (hψ : ∀ st, Cn src J st (ψ st)) (st : St) : Cn src J st (pfxGo src s φ ψ st) := by
  have e : 0 + J = J := Nat.zero_add J
  unfold pfxGo
  split
  · rw [← e]; exact (cn_pfx _ _ _).trans (hψ _)
  · rw [← e]; exact (cn_pfx _ _ _).trans (hφ _)
theorem cn_stop (src : ByteArray) (st : St) : Cn src 0 st (stop st) := cn_same rfl rfl
theorem cn_lcTxt (src : ByteArray) (st : St) : Cn src 1 st (lcTxt src st) := (cn_skip src notLine st).trans (cn_errAt _ _ _ _ _)
theorem cn_lcSkip (src : ByteArray) (st : St) : Cn src 1 st (lcSkip src st) := ((cn_stop src st).trans (cn_skip src notLine _)).weak (by decide)
theorem cn_lineComment (src : ByteArray) (st : St) : Cn src 1 st (lineCommentF src st) := by
  unfold lineCommentF
  split
  · exact cn_lcTxt _ _
  · split
    · exact cn_lcSkip _ _
    · exact cn_pfxGo (cn_lcSkip src) (cn_lcTxt src) st
theorem cn_fcTxt (src : ByteArray) (st : St) : Cn src 2 st (fcTxt src st) := by
  unfold fcTxt
  split
  · exact (cn_skipComment src st).trans (cn_errAt _ _ _ _ _)
  · exact (cn_skipComment src st).weak (by decide)
theorem cn_fcSkip (src : ByteArray) (st : St) : Cn src 2 st (fcSkip src st) := ((cn_stop src st).trans (cn_skipComment src _)).weak (by decide)
theorem cn_fullComment (src : ByteArray) (st : St) : Cn src 2 st (fullCommentF src st) := by
  unfold fullCommentF
  split
  · exact cn_fcTxt _ _
  · split
    · exact cn_fcSkip _ _
    · exact cn_pfxGo (cn_fcSkip src) (cn_fcTxt src) st

/-! Literals -/
theorem cn_escLF (src : ByteArray) (b : Int) (p : St × Int × Int) (hI : escI b p) : Cn src 1 p.1 (escLF src b p).1 := by
  unfold escLF
  refine runF_sat (body := escB src b) (μ := escM) (fun a => escI b a ∧ Cn src 0 p.1 a.1) (P := fun (q : St × Int × Option Bool) => Cn src 1 p.1 q.1) (fun a ha => ?_) p ⟨hI, Cn.refl _ _⟩
  have on := escB_on src b a ha.1
  refine ⟨fun h1 => ⟨fun _ => ha.2.weak (by decide), fun h2 => ⟨fun h3 => ⟨(((on.1 h1).2 h2).1 h3).1, ha.2.trans (cn_error _ _ _)⟩, fun h3 => ?_⟩⟩, fun _ => ha.2.weak (by decide)⟩
  have := ((on.1 h1).2 h2).2 h3
  exact ⟨⟨this.1, ha.2.next⟩, this.2⟩
theorem cn_escTail (src : ByteArray) (b m : Int) (st : St) (r : St × Int × Option Bool) (h : Cn src 1 st r.1) : Cn src 2 st (escTail b m r).2 := by
  unfold escTail
  split
  · exact h.weak (by decide)
  · split
    · exact h.trans (cn_error _ _ _)
    · split
      · exact h.trans (cn_error _ _ _)
      · exact h.weak (by decide)
theorem cn_escape (src : ByteArray) (q : Int) (st : St) : Cn src 2 st (escapeF src q st).2 := by
  unfold escapeF
  split
  · exact (cn_next _ _).weak (by decide)
  · split
    · exact cn_escTail src _ _ _ _ (cn_escLF src 8 (st, 0, 3) ⟨.inl rfl, by show (3 : Int) ≤ 8; decide⟩)
    · split
      · exact cn_escTail src _ _ _ _ ((cn_next src st).trans (cn_escLF src 16 (nextch src st, 0, 2) ⟨.inr rfl, by show (2 : Int) ≤ 8; decide⟩))
      · split
        · exact cn_escTail src _ _ _ _ ((cn_next src st).trans (cn_escLF src 16 (nextch src st, 0, 4) ⟨.inr rfl, by show (4 : Int) ≤ 8; decide⟩))
        · split
          · exact cn_escTail src _ _ _ _ ((cn_next src st).trans (cn_escLF src 16 (nextch src st, 0, 8) ⟨.inr rfl, by show (8 : Int) ≤ 8; decide⟩))
          · split
            · exact (Cn.refl _ _).weak (by decide)
            · exact (cn_error _ _ _).weak (by decide)
theorem cn_rawLF (src : ByteArray) (p : St × Bool) : Cn src 1 p.1 (rawLF src p).1 := by
  unfold rawLF
  refine runF_sat (body := rawB src) (μ := okM src) (fun a => Cn src 0 p.1 a.1) (P := fun (q : St × Bool) => Cn src 1 p.1 q.1) (fun a ha => ?_) p (Cn.refl _ _)
  refine ⟨fun _ => ha.next.weak (by decide), fun h1 => ⟨fun _ => ha.trans (cn_errorAt _ _ _ _), fun h2 => ⟨ha.next, nextch_left src a.1 (ne_neg h2)⟩⟩⟩
theorem cn_strLF (src : ByteArray) (p : St × Bool) : Cn src 1 p.1 (strLF src p).1 := by
  unfold strLF
  refine runF_sat (body := strB src) (μ := okM src) (fun a => Cn src 0 p.1 a.1) (P := fun (q : St × Bool) => Cn src 1 p.1 q.1) (fun a ha => ?_) p (Cn.refl _ _)
  have esc : (a.1.ch == 92) = true → Cn src 0 p.1 (escapeF src 34 (nextch src a.1)).2 ∧ left src (escapeF src 34 (nextch src a.1)).2 < left src a.1 := fun h => by
    have hne : ¬ a.1.ch = -1 := eq_ne (by decide) h
    exact ⟨ha.trans (cn_pay' hne (cn_escape src 34 (nextch src a.1)) (by decide)), Nat.lt_of_le_of_lt (escapeF_on src 34 (nextch src a.1)).left (nextch_left src a.1 hne)⟩
  exact ⟨fun _ => ha.next.weak (by decide), fun _ => ⟨fun h => ⟨fun _ => esc h, fun _ => esc h⟩, fun _ => ⟨fun _ => ha.trans (cn_error _ _ _), fun _ => ⟨fun _ => ha.trans (cn_errorAt _ _ _ _), fun h2 => ⟨ha.next, nextch_left src a.1 (ne_neg h2)⟩⟩⟩⟩⟩
theorem cn_runeLF (src : ByteArray) (p : St × Bool × Int) : Cn src 1 p.1 (runeLF src p).1 := by
  unfold runeLF
  refine runF_sat (body := runeB src) (μ := runeM src) (fun a => Cn src 0 p.1 a.1) (P := fun (q : St × Bool) => Cn src 1 p.1 q.1) (fun a ha => ?_) p (Cn.refl _ _)
  have esc : (a.1.ch == 92) = true → Cn src 0 p.1 (escapeF src 39 (nextch src a.1)).2 ∧ left src (escapeF src 39 (nextch src a.1)).2 < left src a.1 := fun h => by
    have hne : ¬ a.1.ch = -1 := eq_ne (by decide) h
    exact ⟨ha.trans (cn_pay' hne (cn_escape src 39 (nextch src a.1)) (by decide)), Nat.lt_of_le_of_lt (escapeF_on src 39 (nextch src a.1)).left (nextch_left src a.1 hne)⟩
  have n0 : Cn src 1 p.1 (nextch src a.1) := ha.next.weak (by decide)
  have w : Cn src 1 p.1 a.1 := ha.weak (by decide)
  exact ⟨fun _ => ⟨fun _ => ⟨fun _ => (ha.trans (cn_error _ _ _)).next, fun _ => ⟨fun _ => (ha.trans (cn_errorAt _ _ _ _)).next, fun _ => n0⟩⟩, fun _ => n0⟩,
    fun _ => ⟨fun h => ⟨fun _ => esc h, fun _ => esc h⟩, fun _ => ⟨fun _ => ⟨fun _ => ha.trans (cn_error _ _ _), fun _ => w⟩, fun _ => ⟨fun _ => ⟨fun _ => ha.trans (cn_errorAt _ _ _ _), fun _ => w⟩, fun h2 => ⟨ha.next, nextch_left src a.1 (ne_neg h2)⟩⟩⟩⟩⟩
theorem cn_setLit (src : ByteArray) (k : Int) (ok : Bool) (st : St) : Cn src 0 st (setLitF src k ok st) := cn_same rfl rfl
theorem cn_str (src : ByteArray) (st : St) : Cn src 1 st (stdStringF src st) := ((cn_next src st).trans (cn_strLF src (nextch src st, true))).trans (cn_setLit _ _ _ _)
theorem cn_raw (src : ByteArray) (st : St) : Cn src 1 st (rawStringF src st) := ((cn_next src st).trans (cn_rawLF src (nextch src st, true))).trans (cn_setLit _ _ _ _)
theorem cn_rune (src : ByteArray) (st : St) : Cn src 1 st (runeF src st) := ((cn_next src st).trans (cn_runeLF src (nextch src st, true, 0))).trans (cn_setLit _ _ _ _)

/-! Names -/
theorem cn_atId (src : ByteArray) (f : Bool) (st : St) : Cn src 1 st (atIdF f st).2 := by
  unfold atIdF
  split
  · exact (Cn.refl _ _).weak (by decide)
  · split
    · show Cn src 1 st (if f = true then _ else _)
      split
      · exact cn_error _ _ _
      · exact (Cn.refl _ _).weak (by decide)
    · split
      · exact cn_error _ _ _
      · exact (Cn.refl _ _).weak (by decide)
def idCn (src : ByteArray) (st : St) : Step St St → Prop
  | .go a' => Cn src 0 st a'
  | .out q => Cn src 1 st q
theorem idB_cn (src : ByteArray) (a : St) : (idB src a).all (idCn src a) :=
  ⟨fun h => cn_pay (cn_atId src false a) (by rw [atIdF_ch]; exact atIdF_ne h) (by decide), fun _ => cn_atId src false a⟩
theorem cn_idBF (src : ByteArray) (st : St) (h : chOk st) : Cn src 1 st (idBF src st) := by
  unfold idBF
  refine runF_sat (body := idB src) (μ := left src) (fun a => chOk a ∧ Cn src 0 st a) (P := fun q => Cn src 1 st q) (fun a ha => ?_) st ⟨h, Cn.refl _ _⟩
  refine sat_mono (sat_all (idB_on src a ha.1) (idB_cn src a)) (fun s hs => ?_)
  cases s with
  | go a' => exact ⟨⟨hs.1.1, ha.2.trans hs.2⟩, hs.1.2.2⟩
  | out q => exact ha.2.trans hs.2
theorem cn_identEnd (src : ByteArray) (s : St) : Cn src 0 s (identEnd src s) := by
  unfold identEnd
  split <;> exact cn_same rfl rfl
theorem cn_ident {src : ByteArray} {st : St} (h : chOk st) : Cn src 1 st (identF src st) := by
  unfold identF
  split
  · exact ((cn_skip src cId st).trans (cn_idBF src _ (skip_chOk h))).trans (cn_identEnd _ _)
  · exact ((cn_skip src cId st).trans (cn_identEnd _ _)).weak (by decide)

/-! Numbers -/
def dCn {κ : Type} (src : ByteArray) (st : St) : Step (St × κ) (St × κ) → Prop
  | .go a' => Cn src 0 st a'.1
  | .out q => Cn src 0 st q.1
theorem digA_cn (src : ByteArray) (mx : Int) (a : St × Int × Int) : (digA src mx a).all (dCn src a.1) := by
  have n := cn_next src a.1
  have k : (digA1 src mx a).all (dCn src a.1) := ⟨fun _ => n, fun _ => ⟨fun _ => ⟨fun _ => n, fun _ => n⟩, fun _ => n⟩⟩
  exact ⟨fun _ => k, fun _ => ⟨fun _ => k, fun _ => Cn.refl _ _⟩⟩
theorem digN_cn (src : ByteArray) (a : St × Int) : (digN src 58 a).all (dCn src a.1) := by
  have n := cn_next src a.1
  have k : (digN1 src 58 a).all (dCn src a.1) := ⟨fun _ => n, fun _ => ⟨fun _ => trivial, fun _ => n⟩⟩
  exact ⟨fun _ => k, fun _ => ⟨fun _ => k, fun _ => Cn.refl _ _⟩⟩
theorem digB_cn (src : ByteArray) (a : St × Int) : (digB src a).all (dCn src a.1) := by
  have n := cn_next src a.1
  exact ⟨fun _ => ⟨fun _ => n, fun _ => n⟩, fun _ => ⟨fun _ => ⟨fun _ => n, fun _ => n⟩, fun _ => Cn.refl _ _⟩⟩
theorem cn_digits (src : ByteArray) (b : Int) (st : St) (inv : Int) : Cn src 0 st (digitsF src b st inv).1 := by
  unfold digitsF
  split
  · refine runF_sat (body := digA src (IntKind.i32.wrap (IntKind.i64.wrap (48 + b)))) (μ := digAM src) (fun a => Cn src 0 st a.1) (P := fun q => Cn src 0 st q.1) (fun a ha => ?_) (st, 0, inv) (Cn.refl _ _)
    refine sat_mono (sat_all (digA_on src _ a) (digA_cn src _ a)) (fun s hs => ?_)
    cases s with
    | go a' => exact ⟨ha.trans hs.2, hs.1.2⟩
    | out q => exact ha.trans hs.2
  · refine runF_sat (body := digB src) (μ := digNM src) (fun a => Cn src 0 st a.1) (P := fun q => Cn src 0 st q.1) (fun a ha => ?_) (st, 0) (Cn.refl _ _)
    refine sat_mono (sat_all (digB_on src a) (digB_cn src a)) (fun s hs => ?_)
    cases s with
    | go a' => exact ⟨ha.trans hs.2, hs.1.2⟩
    | out q => exact ha.trans hs.2
theorem cn_digN (src : ByteArray) (st : St) : Cn src 0 st (digNF src (st, 0)).1 := by
  unfold digNF
  refine runF_sat (body := digN src 58) (μ := digNM src) (fun a => Cn src 0 st a.1) (P := fun q => Cn src 0 st q.1) (fun a ha => ?_) (st, 0) (Cn.refl _ _)
  refine sat_mono (sat_all (digN_on src a) (digN_cn src a)) (fun s hs => ?_)
  cases s with
  | go a' => exact ⟨ha.trans hs.2, hs.1.2⟩
  | out q => exact ha.trans hs.2
theorem all_mono {α : Type} {P Q : α → Prop} {t : Tree α} (h : t.all P) (hpq : ∀ a, P a → Q a) : t.all Q := by
  induction t with
  | leaf a => exact hpq a h
  | test b t e iht ihe => exact ⟨fun hb => iht (h.1 hb), fun hb => ihe (h.2 hb)⟩
  | req p k ih => exact ih h
  | any t e iht ihe => exact ⟨iht h.1, ihe h.2⟩
  | fail => trivial
theorem all_bind {α β : Type} {P : α → Prop} {Q : β → Prop} {t : Tree α} {f : α → Tree β} (h : t.all P) (hf : ∀ a, P a → (f a).all Q) : (t.bind f).all Q := by
  induction t with
  | leaf a => exact hf a h
  | test b t e iht ihe => exact ⟨fun hb => iht (h.1 hb), fun hb => ihe (h.2 hb)⟩
  | req p k ih => exact ih (show k.all P from h)
  | any t e iht ihe => exact ⟨iht h.1, ihe h.2⟩
  | fail => trivial
theorem n1_cn {src : ByteArray} {base pre d0 : Int} {st : St} {r : St × Int × Int} (h : Cn src 0 st r.1) : (n1T src base pre d0 r).all (fun a => Cn src 1 st a.st) := by
  have e : ∀ m, Cn src 1 st (nextch src (error m r.1)) := fun m => (h.trans (cn_error src m _)).next
  exact ⟨fun _ => ⟨fun _ => e _, fun _ => ⟨fun _ => e _, fun _ => h.next.weak (by decide)⟩⟩, fun _ => h.weak (by decide)⟩
theorem p1F_cn (src : ByteArray) (st : St) : (p1FT src st).all (fun a => Cn src 1 st a.st) := by
  have n1 := cn_next src st
  have n2 := n1.next
  exact ⟨fun _ => ⟨fun _ => n1_cn (n2.trans (cn_digits _ _ _ _)), fun _ => ⟨fun _ => n1_cn (n2.trans (cn_digits _ _ _ _)), fun _ => ⟨fun _ => n1_cn (n2.trans (cn_digits _ _ _ _)), fun _ => n1_cn (n1.trans (cn_digits _ _ _ _))⟩⟩⟩, fun _ => n1_cn (cn_digits _ _ _ _)⟩
theorem p2_cn (src : ByteArray) (s : NumS) : (p2T src s).all (fun a => Cn src 0 s.st a.st) := ⟨fun _ => cn_digits _ _ _ _, fun _ => Cn.refl _ _⟩
theorem p3_cn (src : ByteArray) (s : NumS) : (p3T s).all (fun a => Cn src 1 s.st a.st) := by
  have w : Cn src 1 s.st s.st := (Cn.refl _ _).weak (by decide)
  exact ⟨fun _ => ⟨fun _ => cn_error _ _ _, fun _ => w⟩, fun _ => w⟩
theorem expDig_cn {src : ByteArray} {J : Nat} {st : St} {s : NumS} {x : St} (h : Cn src J st x) : (expDigT src s x).all (fun a => Cn src (J + 1) st a.st) := by
  have d : Cn src J st (digNF src (x, 0)).1 := h.trans (cn_digN src x)
  have w : Cn src (J + 1) st (digNF src (x, 0)).1 := d.weak (Nat.le_succ _)
  exact ⟨fun _ => ⟨fun _ => d.trans (cn_error _ _ _), fun _ => w⟩, fun _ => w⟩
theorem expSign_cn {src : ByteArray} {J : Nat} {st : St} {s : NumS} (h : Cn src J st s.st) : (expSignT src s).all (fun a => Cn src (J + 1) st a.st) :=
  ⟨fun _ => expDig_cn h.next.next, fun _ => ⟨fun _ => expDig_cn h.next.next, fun _ => expDig_cn h.next⟩⟩
theorem expErr_cn (src : ByteArray) (s : NumS) (x : Int) : Cn src 1 s.st (expErr (s, x)).st := by
  unfold expErr
  simp only
  split
  · exact cn_error _ _ _
  · split
    · exact cn_error _ _ _
    · exact (Cn.refl _ _).weak (by decide)
theorem p4_cn (src : ByteArray) (B : Prop) (s : NumS) : (p4T src B s).all (fun a => Cn src 2 s.st a.st) := by
  have a1 : (expSignT src (expErr (s, lowerF s.st.ch))).all (fun a => Cn src 2 s.st a.st) := expSign_cn (expErr_cn src s _)
  have a2 : (expSignT src s).all (fun a => Cn src 2 s.st a.st) := all_mono (expSign_cn (Cn.refl _ _)) (fun a h => h.weak (by decide))
  have w : Cn src 2 s.st s.st := (Cn.refl _ _).weak (by decide)
  exact ⟨fun _ => ⟨fun _ => a1, fun _ => a2⟩, fun _ => ⟨fun _ => ⟨fun _ => a1, fun _ => a2⟩, fun _ => ⟨fun _ => ⟨fun _ => ⟨fun _ => (cn_error _ _ _).weak (by decide), fun _ => w⟩, fun _ => w⟩, fun _ => w⟩⟩⟩
theorem p45_cn (src : ByteArray) (s : NumS) : (p45T src s).all (fun a => Cn src 0 s.st a.st) := ⟨fun _ => cn_next _ _, fun _ => Cn.refl _ _⟩
theorem p5_cn (src : ByteArray) (s : NumS) : (p5T src s).all (fun a => Cn src 1 s.st a.st) := by
  have l := cn_setLit src s.kind s.ok s.st
  have w : Cn src 1 s.st (setLitF src s.kind s.ok s.st) := l.weak (by decide)
  exact ⟨fun _ => ⟨fun _ => ⟨fun _ => l.trans (cn_errorAt _ _ _ _), fun _ => w⟩, fun _ => w⟩, fun _ => w⟩
theorem p6_cn (src : ByteArray) (s : NumS) : (p6T s).all (fun a => Cn src 1 s.st a.st) := by
  have w : Cn src 1 s.st s.st := (Cn.refl _ _).weak (by decide)
  exact ⟨fun _ => ⟨fun _ => ⟨fun _ => cn_errorAt _ _ _ _, fun _ => w⟩, fun _ => w⟩, fun _ => w⟩
theorem numTail_cn {src : ByteArray} {J : Nat} {st : St} {s : NumS} (h : Cn src J st s.st) : (numTail src True Tree.leaf s).all (fun a => Cn src (J + 5) st a.st) :=
  all_bind (p2_cn src s) fun a ha => all_bind (p3_cn src a) fun b hb => all_bind (p4_cn src True b) fun c hc => all_bind (p45_cn src c) fun d hd => all_bind (p5_cn src d) fun e he => all_bind (p6_cn src e) fun f hf => (((((h.trans ha).trans hb).trans hc).trans hd).trans he).trans hf
theorem cn_number {src : ByteArray} {seen : Bool} {st : St} (h : Off src st) (hc : st.ch ≠ 10) : Cn src 6 st (numberF src seen st) := by
  have key : (numTree src True Tree.leaf seen st).all (fun a => Cn src 6 st a.st) := by
    unfold numTree
    split
    · exact all_mono (numTail_cn (J := 0) (Cn.refl _ _)) (fun a h => h.weak (by decide))
    · exact all_bind (p1F_cn src st) fun a ha => numTail_cn ha
  have := (num_get h hc).1 (sat_mono (sat_all (num_sat h hc) key) (fun a h => h.2))
  exact this.trans (cn_same rfl rfl)

/-! A pass -/
def SwC (src : ByteArray) (st : St) : Fin → Prop
  | .done s _ => Cn src 20 st s
  | .redo s => Cn src 20 st s
  | .asg s => Cn src 20 st s
theorem cn_rewind {src : ByteArray} {st : St} (hO : Off src st) (hb : st.b = some (st.p - st.chw)) (hP : Pos src st) (hc : st.ch = 46) : Cn src 0 st (nextch src (rewind src (nextch src (nextch src st)))) := by
  obtain ⟨r1, r2, r3, _⟩ := rewind_at hb hP hc (nextch src (nextch src st)) rfl
  have hw := hP.w; have hn := hP.n; have hsz := hO.sz
  have h1 : st.chw = 1 := by
    have := hP.asc (by rw [hc]; decide)
    have := hP.pos (by rw [hc]; decide)
    omega
  have e : (nextch src (nextch src st)).b.getD 0 = st.p - 1 := by show st.b.getD 0 = _; rw [hb, h1]; rfl
  have cnt : ∀ s : St, s.p ≤ src.size → (nextch src s).notes.length ≤ s.notes.length + 2048 := fun s hs => by
    have h1 := readAt_cnt src (nlLine s) (src.size + 1) s.fresh s.p (nlCol s) s.notes
    have h2 := (nextch_pos (src := src) hs).1.n
    have e1 : (nextch src s).p = (readAt src (nlLine s) (src.size + 1) s.fresh s.p (nlCol s) s.notes).p := rfl
    have e2 : (nextch src s).notes = (readAt src (nlLine s) (src.size + 1) s.fresh s.p (nlCol s) s.notes).notes := rfl
    rw [← e1, ← e2] at h1
    omega
  have c1 := cnt st hn
  have c2 := cnt (nextch src st) (nextch_pos (src := src) hn).1.n
  have hrn : (rewind src (nextch src (nextch src st))).notes.length ≤ (nextch src (nextch src st)).notes.length + 1 := by
    have h1 := readAt_cnt src (nlLine { nextch src (nextch src st) with p := (nextch src (nextch src st)).b.getD 0, col0 := u64 ((nextch src (nextch src st)).col0 - u64 (((nextch src (nextch src st)).p : Int) - ((nextch src (nextch src st)).b.getD 0 : Nat))) }) (src.size + 1) (nextch src (nextch src st)).fresh ((nextch src (nextch src st)).b.getD 0) (nlCol { nextch src (nextch src st) with p := (nextch src (nextch src st)).b.getD 0, col0 := u64 ((nextch src (nextch src st)).col0 - u64 (((nextch src (nextch src st)).p : Int) - ((nextch src (nextch src st)).b.getD 0 : Nat))) }) (nextch src (nextch src st)).notes
    have e2 : (rewind src (nextch src (nextch src st))).notes.length + (nextch src (nextch src st)).b.getD 0 ≤ (nextch src (nextch src st)).notes.length + (rewind src (nextch src (nextch src st))).p := h1
    rw [e, r1] at e2
    omega
  have hl : left src (rewind src (nextch src (nextch src st))) = left src st := by unfold left; rw [r1, r3, hc]
  have := cn_next1 src (rewind src (nextch src (nextch src st))) (by rw [r3]; decide)
  unfold Cn
  omega
theorem sw_satC {src : ByteArray} {nl : Bool} {st : St} (hO : Off src st) (hP : Pos src st) (hbb : st.b = some (st.p - st.chw)) : (swT src nl st).sat (SwC src st) := by
  have hb := hO.b
  have eqv : ∀ {k : Int}, (st.ch == k) = true → st.ch = k := fun h => by simpa using h
  have z : Cn src 0 st st := Cn.refl _ _
  have g1 : Cn src 0 st (nextch src st) := cn_next _ _
  have g2 := g1.next
  have g3 := g2.next
  have up : ∀ {a b : St}, Cn src 0 st a → b.notes = a.notes → left src b = left src a → Cn src 0 st b := fun h e1 e2 => h.trans (cn_same e1 e2)
  have f1 : ∀ {t : Int} {s : St}, Cn src 0 st s → (sw1 t s).sat (SwC src st) := fun h => (up h rfl rfl).weak (by decide)
  have f4 : ∀ {o p : Int} {s : St}, Cn src 0 st s → (sw4 o p s).sat (SwC src st) := fun h => (up h rfl rfl).weak (by decide)
  have fA : ∀ {o p : Int} {s : St}, Cn src 0 st s → (swA o p s).sat (SwC src st) := fun h => (up h rfl rfl).weak (by decide)
  have fl : ∀ {w : ByteArray} {s : St}, Cn src 0 st s → SwC src st (.done (lit w s) []) := fun h => (up h rfl rfl).weak (by decide)
  have num : ∀ k : Int, k ≠ 10 → (st.ch == k) = true → (swNum src false st).sat (SwC src st) := fun k hk h => by
    have hc : st.ch ≠ 10 := fun e => hk ((eqv h).symm.trans e)
    exact ⟨⟨hO, hc⟩, (cn_number hO hc).weak (by decide)⟩
  have sm : Cn src 0 st (semi (nextch src st)) := up g1 rfl rfl
  have on : ∀ o p, Cn src 0 st (nextch src (opr o p (nextch src st))) := fun o p => Cn.next (up g1 rfl rfl)
  have osn : ∀ o p, Cn src 0 st (semi (nextch src (opr o p (nextch src st)))) := fun o p => up (on o p) rfl rfl
  refine tr_sat (tr_sat (fl z) (f1 z)) (tr_sat (fl g1) ?_)
  refine test_sat (num 48 (by decide)) (test_sat (num 49 (by decide)) (test_sat (num 50 (by decide)) (test_sat (num 51 (by decide)) (test_sat (num 52 (by decide)) ?_))))
  refine test_sat (num 53 (by decide)) (test_sat (num 54 (by decide)) (test_sat (num 55 (by decide)) (test_sat (num 56 (by decide)) (test_sat (num 57 (by decide)) ?_))))
  refine tr_sat ⟨hb, (cn_str src st).weak (by decide)⟩ (tr_sat ⟨hb, (cn_raw src st).weak (by decide)⟩ (tr_sat ⟨hb, (cn_rune src st).weak (by decide)⟩ ?_))
  refine tr_sat (f1 g1) (tr_sat (f1 g1) (tr_sat (f1 g1) (tr_sat (f1 g1) (tr_sat (fl g1) (tr_sat (f1 sm) (tr_sat (f1 sm) (tr_sat (f1 sm) ?_)))))))
  refine tr_sat (tr_sat (f1 g2) (f1 g1)) ?_
  refine test_sat (fun h => test_sat (fun h3 => ?_) (test_sat (fun h2 => tr_sat (f1 g3) ⟨hb, f1 (cn_rewind hO hbb hP (eqv h))⟩) (f1 g1))) ?_
  · have o1 := (hO.next (by rw [eqv h]; decide)).1
    have c1 : (nextch src st).ch ≠ 10 := fun e => by rw [e] at h3; exact absurd h3 (by decide)
    exact ⟨⟨o1, c1⟩, (g1.trans (cn_number o1 c1)).weak (by decide)⟩
  have r1 : Cn src 20 st (lineCommentF src (nextch src (nextch src st))) := (g2.trans (cn_lineComment _ _)).weak (by decide)
  have r2 : Cn src 20 st (fullCommentF src (nextch src (nextch src st))) := (g2.trans (cn_fullComment _ _)).weak (by decide)
  have r2l : Cn src 20 st (lit wNewline (fullCommentF src (nextch src (nextch src st)))) := ((g2.trans (cn_fullComment _ _)).trans (cn_same rfl rfl)).weak (by decide)
  refine tr_sat (tr_sat (fA g1) (f1 (osn 13 4))) (tr_sat (tr_sat (fA g1) (f1 (osn 14 4))) (tr_sat (tr_sat (f1 (on 17 5)) (f1 (up g1 rfl rfl))) ?_))
  refine tr_sat (tr_sat ⟨hb, r1⟩ (tr_sat ⟨hb, tr_sat (tr_sat r2l r2) r2⟩ (fA g1))) ?_
  have e21 : Cn src 20 st { nextch src (opr 20 5 (nextch src st)) with op := 21 } := ((on 20 5).trans (cn_same rfl rfl)).weak (by decide)
  refine tr_sat (fA g1) (tr_sat (tr_sat (f4 g2) (tr_sat e21 (fA g1))) (tr_sat (tr_sat (f4 g2) (fA g1)) (tr_sat (fA g1) ?_)))
  refine tr_sat (tr_sat (f4 g2) (tr_sat (fA g2) (tr_sat (f1 g2) (f4 g1)))) (tr_sat (tr_sat (f4 g2) (tr_sat (fA g2) (f4 g1))) (tr_sat (tr_sat (f4 g2) (f1 g1)) (tr_sat (tr_sat (f4 g2) (f4 g1)) (tr_sat (f4 g1) ?_))))
  exact ((cn_error src msgChar st).trans (cn_next _ _)).weak (by decide)
theorem pass_satC {src : ByteArray} {nl : Bool} {st : St} (h : Pos0 src st) (hs : src.size ≤ 2048) : (passT src nl st).sat (fun f => match f with
    | .done s _ => Cn src 40 st s
    | .redo s => Cn src 40 st s
    | .asg s => Cn src 40 st s) := by
  obtain ⟨p1, a1, n1⟩ := blanks_pos (nl := nl) h
  have c1 : Cn src 0 st (skip src (cBlank nl) (stop st)) := (cn_stop src st).trans (cn_skip src _ _)
  have key : ∀ bl : Bool, (hdT src (fun s => Fin.done s []) (swT src nl) (nxSt bl (skip src (cBlank nl) (stop st)))).sat (fun f => match f with
    | .done s _ => Cn src 40 st s
    | .redo s => Cn src 40 st s
    | .asg s => Cn src 40 st s) := fun bl => by
    have c2 : Cn src 0 st (nxSt bl (skip src (cBlank nl) (stop st))) := c1.trans (cn_same rfl rfl)
    have hO := nxSt_off (bl := bl) p1 hs
    have hP := nxSt_pos bl p1
    have hbb : (nxSt bl (skip src (cBlank nl) (stop st))).b = some ((nxSt bl (skip src (cBlank nl) (stop st))).p - (nxSt bl (skip src (cBlank nl) (stop st))).chw) := rfl
    generalize nxSt bl (skip src (cBlank nl) (stop st)) = s at *
    have oI := cn_atId src true s
    have sI := atId_same true s
    have w : ∀ (a : St), Cn src 1 st a → ∀ f, SwC src a f → (match f with
      | .done s _ => Cn src 40 st s
      | .redo s => Cn src 40 st s
      | .asg s => Cn src 40 st s) := fun a ha f hf => by
      cases f with
      | done s bx => exact (ha.trans (show Cn src 20 a s from hf)).weak (by decide)
      | redo s => exact (ha.trans (show Cn src 20 a s from hf)).weak (by decide)
      | asg s => exact (ha.trans (show Cn src 20 a s from hf)).weak (by decide)
    refine ⟨fun _ => ⟨⟨nextch_chOk _ _, hO.b⟩, (c2.next.trans (cn_ident (nextch_chOk _ _))).weak (by decide)⟩, fun _ => ⟨fun _ => ⟨hP.ch, fun _ => ⟨⟨nextch_chOk _ _, by rw [sI.2.2.1]; exact hO.b⟩, ((c2.trans oI).next.trans (cn_ident (nextch_chOk _ _))).weak (by decide)⟩, fun _ => ?_⟩, fun _ => ?_⟩⟩
    · exact sat_mono (sw_satC (atId_off hO) ((atIdF_on src true s).pos hP).1 (by rw [sI.2.2.1, sI.1, sI.2.1]; exact hbb)) (w _ (c2.trans oI))
    · exact sat_mono (sw_satC hO hP hbb) (w _ (c2.weak (by decide)))
  exact key _
/-- What next tells: paid by what was read, but for a little. -/
theorem nextF_cn {src : ByteArray} {st : St} (h : Pos0 src st) (hs : src.size ≤ 2048) : (nextF src st).1.notes.length + 6000 * left src (nextF src st).1 ≤ st.notes.length + 6000 * left src st + 50 := by
  unfold nextF
  refine runF_sat (body := nextB src st.nlsemi) (μ := left src) (fun a => Pos0 src a ∧ left src a ≤ left src st ∧ a.notes.length + 6000 * left src a ≤ st.notes.length + 6000 * left src st) (P := fun r : St × List Value => r.1.notes.length + 6000 * left src r.1 ≤ st.notes.length + 6000 * left src st + 50) (fun a ha => ?_) { st with nlsemi := false } ⟨pos0_nl h false, Nat.le_refl _, Nat.le_refl _⟩
  obtain ⟨h1, h2, h3⟩ := ha
  unfold nextB
  rw [sat_bind]
  refine sat_mono (sat_both (pass_satR h1 hs) (pass_satC h1 hs)) (fun f hf => ?_)
  obtain ⟨hf, hc⟩ := hf
  cases f with
  | done s bx =>
    have hc : Cn src 40 a s := hc
    have hl := hf.2.1.left
    unfold Cn at hc
    show s.notes.length + 6000 * left src s ≤ _
    omega
  | redo s =>
    have hc : Cn src 40 a s := hc
    have hl : left src s < left src a := hf.2.2.1
    unfold Cn at hc
    exact ⟨⟨.inl hf.1, by omega, by omega⟩, hl⟩
  | asg s =>
    have hc : Cn src 40 a s := hc
    have hl := hf.2.1.left
    have c2 : Cn src 0 s (asgF src s) := by
      unfold asgF
      split
      · exact (cn_next src s).trans (cn_same rfl rfl)
      · exact cn_same rfl rfl
    have f2 : left src (asgF src s) ≤ left src s := by
      unfold asgF
      split
      · exact nextch_le src s
      · exact Nat.le_refl _
    unfold Cn at hc c2
    show (asgF src s).notes.length + 6000 * left src (asgF src s) ≤ _
    omega

/-- What is told at the end. -/
def lastN (src : ByteArray) : Nat → St → St
  | 0, st => st
  | n + 1, st => if (nextF src st).1.tok = 1 then (nextF src st).1 else lastN src n (nextF src st).1
def last (src : ByteArray) (m : Int) : St := lastN src (meas src (stI m) + 1) (stI m)
theorem lastN_cn {src : ByteArray} : ∀ (n : Nat) (st : St), Iv src st → meas src st < n → (lastN src n st).notes.length ≤ st.notes.length + 7000 * (meas src st + 1)
  | 0, _, _, h => absurd h (Nat.not_lt_zero _)
  | n + 1, st, hI, hm => by
    obtain ⟨hI', hk, ht, hlt⟩ := iv_next hI
    have hc := nextF_cn hI.pos hI.sz
    have hl := (nextF_sat hI.pos hI.sz).2.1.left
    have ml : 2 * left src st ≤ meas src st := by unfold meas; omega
    have mu : meas src st ≤ 2 * left src st + 1 := by unfold meas; split <;> omega
    have ml' : 2 * left src (nextF src st).1 ≤ meas src (nextF src st).1 := by unfold meas; omega
    have mu' : meas src (nextF src st).1 ≤ 2 * left src (nextF src st).1 + 1 := by unfold meas; split <;> omega
    rw [lastN]
    split
    · omega
    · rename_i hne
      have h2 := hlt hne
      have := lastN_cn n _ hI' (by omega)
      omega
theorem last_cn {src : ByteArray} (m : Int) (hs : src.size ≤ 2048) : (last src m).notes.length ≤ 60000000 := by
  have := lastN_cn (src := src) (meas src (stI m) + 1) (stI m) (iv_start src m hs) (Nat.lt_succ_self _)
  have h2 : meas src (stI m) ≤ 8196 := by
    have : left src (stI m) = 2 * (src.size - 0) + 1 := rfl
    unfold meas
    rw [if_neg (show ¬ (stI m).nlsemi = true from fun h => by cases h)]
    omega
  have h3 : (stI m).notes.length = 0 := rfl
  unfold last
  omega
end Sc
end Go.Proofs.YtogkcphobhhbdaaDoor

/- ZZScan: next is called. -/
namespace Go.Proofs.YtogkcphobhhbdaaDoor
open Go Go.RowKit Go.Lib
namespace Sc
open Ev
set_option maxRecDepth 100000

theorem next_calls {A : Ad} (hA : A.Ok) {st : St} {w : World} (hI : SInv A st w) (hp : Pos0 A.src st) (hb : (nextF A.src st).1.notes.length < lim) :
    Calls Tryd.prog 52 #[.pointer (some ⟨A.s, 0, none⟩)] w (fun e w' => e = .returned (.tuple #[]) ∧ SInv A (nextF A.src st).1 w' ∧ Fr (SY A) [] w w') := by
  obtain ⟨_, h, _⟩ := nxtS_ok A hA
  have hc : InvC (SY A) [] ⟨st, []⟩ w := ⟨hI, rfl, List.nodup_nil, fun i b u h => by simp at h, fun b h => by simp at h⟩
  have hr : Rels (SY A) [] w [.st 0] [.pointer (some ⟨A.s, 0, none⟩)] := .cons rfl .nil
  have := h [.st 0] ⟨st, []⟩ [] w [.pointer (some ⟨A.s, 0, none⟩)] (fun p => p = (unit, ⟨(nextF A.src st).1, (nextF A.src st).2⟩)) hr hc ⟨⟨hp, hA.n1⟩, rfl⟩
  refine Calls.mono this ?_
  rintro e w' (⟨sv, c', v, bl', hq, rfl, hrel, hinv, hext, _⟩ | ⟨rfl, p, rfl, hbig⟩)
  · cases hq
    have hv : v = .tuple #[] := hrel
    exact ⟨by rw [hv], hinv.inv, hext.fr⟩
  · exact absurd hbig (Nat.not_le.2 hb)
/-! What stays so. -/
theorem tabs_of {A : Ad} {st : St} {w : World} (hI : SInv A st w) : Tabs w := by
  obtain ⟨x, hx, _⟩ := hI
  have hg := hx.ok.glob
  have hs := hg.size
  exact ⟨fun i hi => by rw [World.cell?_of_block (w := A.w0) (a := ⟨1, i, none⟩) (hx.below.block _ (by show 1 < _; omega))]; exact hg.tix i hi,
    fun i hi => by rw [World.cell?_of_block (w := A.w0) (a := ⟨2, i, none⟩) (hx.below.block _ (by show 2 < _; omega))]; exact hg.oix i hi⟩
theorem own_ety {w : World} {base n : Nat} {e : TypeId} {sz : Nat} {v : Value} {xs : List Value} (h : w.ownsRow base e sz v n xs) {k : Nat} (hk : v.ownBlock = some k) : base ≤ k ∧ ety w k = some e ∧ k < w.heap.size := by
  rcases h.2 with ⟨rfl, _⟩ | ⟨g, cap, cur, rfl, hb, hh, _⟩
  · simp [Value.ownBlock] at hk
  · have : g = k := by simpa [Value.ownBlock] using hk
    subst this
    exact ⟨hb, ety_of_block hh, (Array.getElem?_eq_some_iff.1 hh).1⟩
theorem kept_drewN {A : Ad} {w : World} (n : Nat) : Kept A w (w.drewN n) :=
  ⟨⟨rfl, rfl, rfl, Nat.le_refl _, fun _ _ => rfl⟩, fun _ _ hu _ hown => ⟨hu, hown⟩, rfl, rfl, rfl, rfl, Nat.le_refl _⟩
theorem own_block {w w' : World} {base n : Nat} {e : TypeId} {sz : Nat} {v : Value} {xs : List Value} (h : w.ownsRow base e sz v n xs) (hb : ∀ k, v.ownBlock = some k → w'.heap[k]? = w.heap[k]?) : w'.ownsRow base e sz v n xs := by
  obtain ⟨h1, h2⟩ := h
  refine ⟨h1, ?_⟩
  rcases h2 with h2 | ⟨g, cap, cur, hv, hg, hh, r⟩
  · exact .inl h2
  · exact .inr ⟨g, cap, cur, hv, hg, by rw [hb g (by rw [hv]; rfl)]; exact hh, r⟩
theorem kept_grown {A : Ad} {x : Raw} {w w' : World} {row : Option Nat} (h : RInv A x w) (hg : w.grownBy w' row) (hr : ∀ k, row = some k → A.base ≤ k ∧ ety w k ≠ some 59) : Kept A w w' := by
  have l1 := lt_s h
  have l2 := lt_buf h
  have b0 := h.below.size
  have := h.ok.s_rd; have := h.ok.rd_buf; have := h.ok.buf_base; have := h.hsize; have := h.ok.e_s; have := h.ok.sb_e; have := h.ok.lo_sb
  have ne : ∀ k, k < A.base → some k ≠ row := fun k hk e => by have := (hr k e.symm).1; omega
  have g := fun k (hk : k < A.base) => hg.block k (by omega) (ne k hk)
  refine ⟨⟨hg.os, hg.tape, hg.output, hg.size, fun k hk => g k (by omega)⟩, fun n u hu xs hown => ⟨by rw [g A.e (by omega)]; exact hu, own_block hown (fun k hk => ?_)⟩, g _ (by omega), g _ (by omega), g _ (by omega), g _ (by omega), hg.size⟩
  obtain ⟨h1, h2, h3⟩ := own_ety hown hk
  exact hg.block k h3 (fun e => (hr k e.symm).2 h2)
theorem sinv_kept {A : Ad} {st : St} {w w' : World} (h : SInv A st w) (hk : ∀ x, RInv A x w → Kept A w w') : SInv A st w' := by
  obtain ⟨x, hx, ha⟩ := h
  exact ⟨x, hx.kept (hk x hx), ha⟩
theorem ety_alloc {w : World} {o : Obj} {k : Nat} (h : k < w.heap.size) : ety (w.alloc o) k = ety w k := by unfold Ev.ety World.shape?; rw [Below.heap_alloc _ _ _ h]
/-- Behind an append to the tokens the scanner is as it was. -/
theorem sinv_app {A : Ad} {st : St} {w w1 : World} {v : Value} {n k : Nat} {xs : List Value} {o : Obj} (hI : SInv A st w) (hown : w.ownsRow A.base 57 9 v n xs) (hg : ((w.drewN k).alloc o).grownBy w1 v.ownBlock) : SInv A st w1 := by
  have h1 : SInv A st (w.drewN k) := sinv_kept hI (fun _ _ => kept_drewN k)
  have h2 : SInv A st ((w.drewN k).alloc o) := sinv_kept h1 (fun _ hx => kept_alloc hx o)
  refine sinv_kept h2 (fun _ hx => kept_grown hx hg (fun b hb => ?_))
  obtain ⟨g1, g2, g3⟩ := own_ety hown hb
  refine ⟨g1, ?_⟩
  rw [ety_alloc (w := w.drewN k) g3]
  show ety w b ≠ _
  rw [g2]
  decide
theorem fr_own {A : Ad} {w w1 : World} {v : Value} {n : Nat} {xs : List Value} (hA : A.Ok) (hf : Fr (SY A) [] w w1) (hown : w.ownsRow A.base 57 9 v n xs) (hw : A.w0.heap.size ≤ A.base) : w1.ownsRow A.base 57 9 v n xs := by
  refine own_block hown (fun k hk => ?_)
  obtain ⟨g1, g2, g3⟩ := own_ety hown hk
  have := hA.s_rd; have := hA.rd_buf; have := hA.buf_base; have := hA.e_s; have := hA.sb_e
  refine hf.keep k g3 ?_ (by simp)
  show ¬ (k < A.w0.heap.size ∨ k = A.s ∨ k = A.buf ∨ k = A.rd ∨ k = A.e ∨ k = A.sb ∨ (A.base ≤ k ∧ ety w k = some 59))
  rw [g2]
  simp only [not_or, not_and]
  exact ⟨by omega, by omega, by omega, by omega, by omega, by omega, fun _ => by decide⟩

/-! A round begins with next. -/
noncomputable abbrev zzCall : Code := fstC zzIn
theorem zz_cut1 : zzIn = .seq zzCall (cutTail 1 zzIn) := by kernel_rfl
theorem zz_call {A : Ad} (hA : A.Ok) {st : St} {w : World} (hI : SInv A st w) (hp : Pos0 A.src st) (hb : (nextF A.src st).1.notes.length < lim) (v : Value) (a : Act) (hz : ZA A v a) (Q : Exit → Act → World → Prop)
    (hQ : ∀ a' w', ZA A v a' → SInv A (nextF A.src st).1 w' → Fr (SY A) [] w w' → Q .normal a' w') : zzCall.wp Tryd.prog Q a w := by
  obtain ⟨x, rfl⟩ := hz.lit
  have hN := next_calls hA hI hp hb
  clear hI
  simp only [zzCall, fstC, zzIn, zzBody, bodyOf, Tryd.f30, Option.getD, blkOf, cond, Nat.beq]
  clear hz
  go_wp2_with (refine hN.mono ?_; rintro en w' ⟨rfl, hI', hF⟩)
  exact hQ _ _ ⟨rfl, rfl, rfl, rfl, rfl⟩ hI' hF
end Sc
end Go.Proofs.YtogkcphobhhbdaaDoor

/- ZZScan: its loop. -/
namespace Go.Proofs.YtogkcphobhhbdaaDoor
open Go Go.RowKit Go.Lib
namespace Sc
open Ev
set_option maxRecDepth 100000

/-- Rows put end to end. -/
def flat {α β : Type} (f : α → List β) : List α → List β
  | [] => []
  | s :: l => f s ++ flat f l
theorem flat_append {α β : Type} (f : α → List β) (l k : List α) : flat f (l ++ k) = flat f l ++ flat f k := by
  induction l with
  | nil => rfl
  | cons a l ih => simp [flat, ih]
theorem flat_len {α β : Type} {f : α → List β} {k : Nat} (hf : ∀ a, (f a).length = k) (l : List α) : (flat f l).length = l.length * k := by
  induction l with
  | nil => simp [flat]
  | cons a l ih => simp only [flat, List.length_append, hf, ih, List.length_cons]; rw [Nat.add_mul, Nat.one_mul, Nat.add_comm]
theorem flat_get {α β : Type} {f : α → List β} {k : Nat} (hf : ∀ a, (f a).length = k) : ∀ (l : List α) (i j : Nat) (a : α), l[i]? = some a → j < k → (flat f l)[i * k + j]? = (f a)[j]?
  | [], i, j, a, h, _ => by simp at h
  | b :: l, 0, j, a, h, hj => by
    simp only [List.getElem?_cons_zero, Option.some.injEq] at h
    subst h
    simp only [flat, Nat.zero_mul, Nat.zero_add]
    rw [List.getElem?_append_left (by rw [hf]; exact hj)]
  | b :: l, i + 1, j, a, h, hj => by
    simp only [List.getElem?_cons_succ] at h
    simp only [flat]
    rw [List.getElem?_append_right (by rw [hf, Nat.add_mul]; omega), hf, show (i + 1) * k + j - k = i * k + j by rw [Nat.add_mul]; omega]
    exact flat_get hf l i j a h hj
/-- The cells of tokens told. -/
abbrev rowOf : List St → List Value := flat tokCells
/-- What is told stays little. -/
def Nb (src : ByteArray) (st : St) : Prop := st.notes.length + 7000 * (meas src st + 1) ≤ 60000000
theorem nb_next {src : ByteArray} {st : St} (hI : Iv src st) (h : Nb src st) : (nextF src st).1.notes.length ≤ 60000000 ∧ ((nextF src st).1.tok ≠ 1 → Nb src (nextF src st).1) := by
  obtain ⟨hI', hk, ht, hlt⟩ := iv_next hI
  have hc := nextF_cn hI.pos hI.sz
  have hl := (nextF_sat hI.pos hI.sz).2.1.left
  have ml : 2 * left src st ≤ meas src st := by unfold meas; omega
  have mu : meas src st ≤ 2 * left src st + 1 := by unfold meas; split <;> omega
  have ml' : 2 * left src (nextF src st).1 ≤ meas src (nextF src st).1 := by unfold meas; omega
  have mu' : meas src (nextF src st).1 ≤ 2 * left src (nextF src st).1 + 1 := by unfold meas; split <;> omega
  unfold Nb at h ⊢
  exact ⟨by omega, fun hne => by have h2 := hlt hne; omega⟩
theorem nb_start {src : ByteArray} (m : Int) (hs : src.size ≤ 2048) : Nb src (stI m) := by
  have h2 : meas src (stI m) ≤ 8196 := by
    have : left src (stI m) = 2 * (src.size - 0) + 1 := rfl
    unfold meas
    rw [if_neg (show ¬ (stI m).nlsemi = true from fun h => by cases h)]
    omega
  have h3 : (stI m).notes.length = 0 := rfl
  unfold Nb; omega
structure Lp (A : Ad) (st : St) (v : Value) (n : Nat) (xs : List Value) (a : Act) (w : World) : Prop where
  inv : SInv A st w
  own : w.ownsRow A.base 57 9 v n xs
  za : ZA A v a
  iv : Iv A.src st
  nb : Nb A.src st
theorem zz_loop {A : Ad} (hA : A.Ok) (Q : Exit → Act → World → Prop) : ∀ (m : Nat) (st : St) (v : Value) (n : Nat) (xs : List Value) (a : Act) (w : World), Lp A st v n xs a w → meas A.src st < m → n + m ≤ 1000000 →
    (∀ v' ve a' w', w'.ownsRow A.base 57 9 v' (n + (toksN A.src m st).length) (xs ++ rowOf (toksN A.src m st)) → SInv A (lastN A.src m st) w' → w'.cell? ⟨A.e, 0, none⟩ = some ve → a'.defers = [] → a'.tmps[4]? = some v' → a'.tmps[5]? = some ve → Q .ret a' w') →
    Code.rounds Tryd.prog zzRound (Exit.inBlock 0 Q) m a w
  | 0, _, _, _, _, _, _, _, h, _, _ => absurd h (Nat.not_lt_zero _)
  | m + 1, st, v, n, xs, a, w, h, hm, hn, hQ => by
    obtain ⟨hI', hk, _, hlt⟩ := iv_next h.iv
    obtain ⟨hb, hnb⟩ := nb_next h.iv h.nb
    have hb' : (nextF A.src st).1.notes.length < lim := by unfold lim; omega
    have hlo : A.w0.heap.size ≤ A.base := by have := hA.s_rd; have := hA.rd_buf; have := hA.buf_base; have := hA.lo_s; omega
    have h20 := hA.glob.size
    rw [rounds_succ, zz_round]
    refine wp_block ?_
    rw [zz_cut1]
    refine wp_seq (zz_call hA h.inv h.iv.pos hb' v a h.za _ (fun a1 w1 z1 i1 f1 => ?_))
    show (cutTail 1 zzIn).wp _ _ a1 w1
    have own1 := fr_own hA f1 h.own hlo
    rw [zz_cut]
    obtain ⟨x, rfl⟩ := z1.lit
    have hbase : A.base ≤ w1.heap.size := by obtain ⟨x0, hx, _⟩ := i1; exact hx.hsize
    have ne : ∀ k, k < A.base → v.ownBlock ≠ some k := fun k hk e => by have := (own_ety own1 e).1; omega
    refine wp_seq (zz_mid hA i1 (tabs_of i1) hk v n xs own1 hbase (by omega) (ne _ (by have := hA.s_rd; have := hA.rd_buf; have := hA.buf_base; omega)) (ne _ (by show 1 < _; omega)) (ne _ (by show 2 < _; omega)) _ x (fun k gg cap w2 a2 own2 grow hat lt tabs2 z2 => ?_))
    show (cutTail 2 zzIn).wp _ _ a2 w2
    have i2 := sinv_app i1 own1 grow
    refine zz_fin i2 _ a2 z2 _ (fun hne a3 z3 => ?_) (fun he ve a3 w3 e1 e2 e3 e4 ce d0 d4 d5 => ?_)
    · show Code.rounds Tryd.prog zzRound (Exit.inBlock 0 Q) m a3 w2
      refine zz_loop hA Q m (nextF A.src st).1 _ (n + 1) (xs ++ tokCells (nextF A.src st).1) a3 w2 ⟨i2, own2, z3, hI', hnb hne⟩ (by have := hlt hne; omega) (by omega) (fun v' ve a' w' o1 o2 o3 o4 o5 o6 => hQ v' ve a' w' ?_ ?_ o3 o4 o5 o6)
      · rw [toksN, if_neg hne]
        simp only [rowOf, flat, List.length_cons]
        rw [show n + ((toksN A.src m (nextF A.src st).1).length + 1) = n + 1 + (toksN A.src m (nextF A.src st).1).length by omega, ← List.append_assoc]
        exact o1
      · rw [lastN, if_neg hne]; exact o2
    · show Q .ret a3 w3
      have hB : Below w2.heap.size w2 w3 := ⟨e2, e3, e4, by rw [e1]; exact Nat.le_refl _, fun k _ => by rw [e1]⟩
      refine hQ _ ve a3 w3 ?_ ?_ ?_ d0 d4 d5
      · rw [toksN, if_pos he]
        simp only [rowOf, flat, List.length_cons, List.length_nil, List.append_nil]
        exact own_below hB own2
      · rw [lastN, if_pos he]; exact sinv_kept i2 (fun _ hx => kept_below hx hB)
      · rw [World.cell?_of_block (w := w2) (a := ⟨A.e, 0, none⟩) (by show w3.heap[A.e]? = w2.heap[A.e]?; rw [e1])]; exact ce
end Sc
end Go.Proofs.YtogkcphobhhbdaaDoor

/- ZZScan told whole. -/
namespace Go.Proofs.YtogkcphobhhbdaaDoor
open Go Go.RowKit Go.Lib
namespace Sc
open Ev
set_option maxRecDepth 100000

noncomputable abbrev zz0 : Code := fstC (cutTail 0 zzBody)
noncomputable abbrev zz1 : Code := fstC (cutTail 1 zzBody)
noncomputable abbrev zz2 : Code := fstC (cutTail 2 zzBody)
noncomputable abbrev zz3 : Code := fstC (cutTail 3 zzBody)
noncomputable abbrev zz4 : Code := fstC (cutTail 4 zzBody)
theorem zz_body : (Tryd.f30).body = some (.seq zz0 (.seq zz1 (.seq zz2 (.seq zz3 (.seq zz4 (.block 0 (.loop zzRound))))))) := by kernel_rfl

theorem w2I_size (w : World) : (w2I w).heap.size = w.heap.size + 2 := by simp [w2I, w1I]
theorem newR (w : World) (sb n scap : Nat) : Calls Tryd.prog 50 #[.slice (some ⟨sb, 0, none⟩) n scap] (w2I w) fun en w' => en = .returned (.pointer (some ⟨w.heap.size + 2, 0, none⟩)) ∧ w' = w3I w sb n scap := by
  have h := newReader_walk (w2I w) (.slice (some ⟨sb, 0, none⟩) n scap) rfl ⟨_, _, _, rfl⟩
  rw [w2I_size] at h
  exact h
theorem init4 (w : World) (sb n scap : Nat) (m : Int) : Calls Tryd.prog 49 #[.pointer (some ⟨w.heap.size + 1, 0, none⟩), .iface 91 (.pointer (some ⟨w.heap.size + 2, 0, none⟩)), .func (.func 51) #[] #[.pointer (some ⟨w.heap.size, 0, none⟩)], .int .u64 m] (w3I w sb n scap) fun en w' => en = .returned (.tuple #[]) ∧ w' = w4I w sb n scap m :=
  init_walk (w3I w sb n scap) (w.heap.size + 1) (w.heap.size + 2) w.heap.size m (w3I_s _ _ _ _)
theorem zz_first (w : World) (sb n scap : Nat) (m : Int) (B : Code) (Q : Exit → Act → World → Prop)
    (hQ : ∀ a, a.defers = [] → a.tmps.size = 46 → a.tmps[6]? = some (.pointer (some ⟨w.heap.size, 0, none⟩)) → a.tmps[7]? = some (.pointer (some ⟨w.heap.size + 1, 0, none⟩)) → a.tmps[8]? = some (.slice none 0 0) → B.wp Tryd.prog Q a (w4I w sb n scap m)) :
    (Code.seq zz0 (.seq zz1 (.seq zz2 (.seq zz3 (.seq zz4 B))))).wp Tryd.prog Q { tmps := #[.slice (some ⟨sb, 0, none⟩) n scap, .int .u64 m] ++ Array.replicate 44 undef, defers := [] } w := by
  have hN := newR w sb n scap
  have hI := init4 w sb n scap m
  simp only [zz0, zz1, zz2, zz3, zz4, fstC, zzBody, bodyOf, Tryd.f30, Option.getD, cutTail, cutN, Option.map, Array.replicate_succ, Array.replicate_zero, List.push_toArray, List.append_toArray, List.nil_append, List.cons_append]
  go_wp2_with (first | (refine hN.mono ?_; rintro en w' ⟨rfl, rfl⟩) | (refine hI.mono ?_; rintro en w' ⟨rfl, rfl⟩))
  exact hQ _ rfl rfl rfl rfl rfl
theorem zz_res {a : Act} {w : World} {v ve : Value} (h4 : a.tmps[4]? = some v) (h5 : a.tmps[5]? = some ve) : (results Tryd.f30 a.tmps).run Tryd.prog w = .ok (.tuple #[v, ve]) w := by
  have e : (Tryd.f30).results = #[.tmp 4, .tmp 5] := by kernel_rfl
  have e4 : a.tmps.getD 4 undef = v := by rw [Array.getD_eq_getD_getElem?, h4]; rfl
  have e5 : a.tmps.getD 5 undef = ve := by rw [Array.getD_eq_getD_getElem?, h5]; rfl
  simp [results, e, h4, h5, go_sem]
theorem zzscan {w0 w : World} {sb scap : Nat} {ea : Addr} {src : ByteArray} (h : Start w0 w sb scap ea src) (m : Int) :
    Calls Tryd.prog 30 #[.slice (some ⟨sb, 0, none⟩) src.size scap, .int .u64 m] w fun en w' => ∃ v ve, en = .returned (.tuple #[v, ve]) ∧
      w'.ownsRow (w.heap.size + 4) 57 9 v (toks src m).length (rowOf (toks src m)) ∧ w'.ownsRow (w.heap.size + 4) 59 3 ve (last src m).notes.length (noteCells (last src m).notes) ∧ Below w0.heap.size w0 w' := by
  have hA := start_ok h
  have hI := start_inv h m
  refine calls_of_wp Tryd.func30 zz_body ?_
  have hnt : (Tryd.f30).ntmps - (#[.slice (some ⟨sb, 0, none⟩) src.size scap, .int .u64 m] : Array Value).size = 44 := by kernel_rfl
  rw [hnt]
  refine zz_first w sb src.size scap m _ _ (fun a d0 ds d6 d7 d8 => ?_)
  refine wp_block (wp_loop_rounds (meas src (stI m) + 1) ?_)
  have hz : ZA (adOf w0 w sb scap ea src) (.slice none 0 0) a := ⟨d0, ds, d6, d7, d8⟩
  have hms : meas src (stI m) ≤ 8196 := by
    have hn : src.size ≤ 2048 := h.n
    have : left src (stI m) = 2 * (src.size - 0) + 1 := rfl
    unfold meas
    rw [if_neg (show ¬ (stI m).nlsemi = true from fun h => by cases h)]
    omega
  refine zz_loop hA _ (meas src (stI m) + 1) (stI m) (.slice none 0 0) 0 [] a _ ⟨hI, World.ownsRow_nil _ _ _ _, hz, iv_start src m h.n, nb_start m h.n⟩ (Nat.lt_succ_self _) (by omega) (fun v ve a' w' o1 o2 o3 o4 o5 o6 => ?_)
  obtain ⟨x, hx, ha⟩ := o2
  obtain ⟨u, hu, hr⟩ := hx.he
  have hue : u = ve := Option.some.inj ((cell_of_block hu (o := 0) (v := u) rfl).symm.trans o3)
  subst hue
  rw [notes_abs ha] at hr
  have o1' : w'.ownsRow (w.heap.size + 4) 57 9 v (toks src m).length (rowOf (toks src m)) := by
    have := o1
    rw [Nat.zero_add, List.nil_append] at this
    exact this
  exact ⟨o4, _, zz_res o5 o6, v, u, rfl, o1', hr, hx.below⟩
end Sc
end Go.Proofs.YtogkcphobhhbdaaDoor

/- impl.Scan: its first loop. -/
namespace Go.Proofs.YtogkcphobhhbdaaDoor
open Go Go.RowKit Go.Lib
namespace Sc
open Ev
set_option maxRecDepth 100000

theorem tmpsN (N : Nat) (t : Array Value) (h : t.size = N) : t = ((List.range N).map fun i => t.getD i undef).toArray := by
  apply Array.ext_getElem?
  intro i
  simp only [List.getElem?_toArray, List.getElem?_map]
  by_cases hi : i < N
  · rw [List.getElem?_range hi]
    simp [h, hi]
  · rw [Array.getElem?_eq_none (by omega), List.getElem?_eq_none (by simp; omega)]; rfl
/-- Known slots of a frame of 74. -/
structure SA (ve vo vr vn vi : Value) (a : Act) : Prop where
  defers : a.defers = []
  size : a.tmps.size = 74
  s7 : a.tmps[7]? = some ve
  s8 : a.tmps[8]? = some vo
  s22 : a.tmps[22]? = some vr
  s23 : a.tmps[23]? = some vn
  s24 : a.tmps[24]? = some vi
theorem SA.lit {ve vo vr vn vi : Value} {a : Act} (h : SA ve vo vr vn vi a) : ∃ x : Nat → Value, a = { tmps := #[x 0, x 1, x 2, x 3, x 4, x 5, x 6, ve, vo, x 9, x 10, x 11, x 12, x 13, x 14, x 15, x 16, x 17, x 18, x 19, x 20, x 21, vr, vn, vi, x 25, x 26, x 27, x 28, x 29, x 30, x 31, x 32, x 33, x 34, x 35, x 36, x 37, x 38, x 39, x 40, x 41, x 42, x 43, x 44, x 45, x 46, x 47, x 48, x 49, x 50, x 51, x 52, x 53, x 54, x 55, x 56, x 57, x 58, x 59, x 60, x 61, x 62, x 63, x 64, x 65, x 66, x 67, x 68, x 69, x 70, x 71, x 72, x 73], defers := [] } := by
  refine ⟨fun i => a.tmps.getD i undef, ?_⟩
  obtain ⟨t, d⟩ := a
  obtain ⟨h1, h2, k7, k8, k22, k23, k24⟩ := h
  simp only at h1 h2 k7 k8 k22 k23 k24
  subst h1
  have e7 : t.getD 7 undef = ve := by rw [Array.getD_eq_getD_getElem?, k7]; rfl
  have e8 : t.getD 8 undef = vo := by rw [Array.getD_eq_getD_getElem?, k8]; rfl
  have e22 : t.getD 22 undef = vr := by rw [Array.getD_eq_getD_getElem?, k22]; rfl
  have e23 : t.getD 23 undef = vn := by rw [Array.getD_eq_getD_getElem?, k23]; rfl
  have e24 : t.getD 24 undef = vi := by rw [Array.getD_eq_getD_getElem?, k24]; rfl
  have ht := tmpsN 74 t h2
  rw [← e7, ← e8, ← e22, ← e23, ← e24]
  exact congrArg (fun t => ({ tmps := t, defers := [] } : Act)) ht
theorem SA.of {ve vo vr vn vi : Value} (x : Nat → Value) : SA ve vo vr vn vi { tmps := #[x 0, x 1, x 2, x 3, x 4, x 5, x 6, ve, vo, x 9, x 10, x 11, x 12, x 13, x 14, x 15, x 16, x 17, x 18, x 19, x 20, x 21, vr, vn, vi, x 25, x 26, x 27, x 28, x 29, x 30, x 31, x 32, x 33, x 34, x 35, x 36, x 37, x 38, x 39, x 40, x 41, x 42, x 43, x 44, x 45, x 46, x 47, x 48, x 49, x 50, x 51, x 52, x 53, x 54, x 55, x 56, x 57, x 58, x 59, x 60, x 61, x 62, x 63, x 64, x 65, x 66, x 67, x 68, x 69, x 70, x 71, x 72, x 73], defers := [] } := ⟨rfl, rfl, rfl, rfl, rfl, rfl, rfl⟩

noncomputable abbrev scBody : Code := bodyOf Tryd.f15
noncomputable abbrev scLoop : Code := loopOf (blkOf scBody 0)
/-- A token as it is handed on. -/
def outCells (st : St) : List Value := [.int .i64 (wrap64 st.line), .int .i64 (wrap64 st.col), .bool st.blank, .string (tokWord st.tok.toNat), .string st.lit, .bool st.bad, .int .i64 (wrap64 st.kind), .string (opStr st.op), .int .i64 st.prec]
theorem info_out : (Tryd.prog.info? 27).map (fun i => (i.zero, i.size, i.bytes)) = some (some (.agg #[.int .i64 0, .int .i64 0, .bool false, .string ⟨#[]⟩, .string ⟨#[]⟩, .bool false, .int .i64 0, .string ⟨#[]⟩, .int .i64 0]), 9, 96) := by kernel_rfl
/-- A token is appended to those handed on. -/
theorem sc_app {w : World} {o1 : Obj} {base n : Nat} {v : Value} {xs : List Value} {st : St} (hown : w.ownsRow base 27 9 v n xs) (hbase : base ≤ w.heap.size) (hn : n ≤ 1000000)
    {ops : Array Oper} {rest : List Oper} {o : Oper} {a : Act} {Q : Exit → Act → World → Prop} (hgd : o.guard = none) (s x : Operand)
    (ho : o.op = .call { callee := .builtin .append, args := #[s, x], argTypes := #[22, 22] }) (hs : a.eval s = v) (hx : a.eval x = .slice (some ⟨w.heap.size + 1, 0, none⟩) 1 1)
    (h : ∀ g cap w', w'.ownsRow base 27 9 (.slice (some ⟨g, 0, none⟩) (n + 1) cap) (n + 1) (xs ++ outCells st) → ((w.alloc o1).alloc (.cells (outCells st).toArray 27)).grownBy w' v.ownBlock → wpList Tryd.prog ops Q rest (a.put o.dst (.slice (some ⟨g, 0, none⟩) (n + 1) cap)) w') :
    wpList Tryd.prog ops Q (o :: rest) a ((w.alloc o1).alloc (.cells (outCells st).toArray 27)) := by
  obtain ⟨i0, hi0, hz0, hz1, hz2⟩ := info_parts info_out
  have hsz : ((w.alloc o1).alloc (.cells (outCells st).toArray 27)).heap.size = w.heap.size + 2 := by simp
  have hsz1 : (w.alloc o1).heap.size = w.heap.size + 1 := by simp
  have hlen : (outCells st).length = 9 := rfl
  have hml : n + 1 ≤ maxLen := by simp only [maxLen]; omega
  have hone : ∀ u ∈ outCells st, u.oneCell' = true := by simp [outCells, Value.oneCell']
  have hnews := World.news_of_block (cs := (outCells st).toArray) (t := 27) (fr := (0, 0)) (heap_alloc_new (w.alloc o1) (.cells (outCells st).toArray 27))
  rw [hsz1] at hnews
  exact wpList_append_lies _ hgd s x 22 ho base 27 i0 _ 9 96 Tryd.underlying22 hi0 hz0 hz1 hz2 rfl (by omega) v n xs hs (own_alloc (own_alloc hown _) _)
    ⟨w.heap.size + 1, 0, none⟩ 1 1 (outCells st) hx hlen hnews hone
    (by omega) hml (by omega) (by rw [hsz]; omega) (w.heap.size + 2) hsz (fun g cap w' h1 h2 _ _ => h g cap w' h1 h2)
set_option maxHeartbeats 3200000 in
theorem sc_round {w : World} {st : St} {g cap n i base : Nat} {ve vo : Value} {xs : List Value} (hi : i < n) (hn : n ≤ 1000000) (hown : w.ownsRow base 27 9 vo i xs) (hbase : base ≤ w.heap.size)
    (c0 : w.cell? ⟨g, i * 9, none⟩ = some (.int .u64 st.line)) (c1 : w.cell? ⟨g, i * 9 + 1, none⟩ = some (.int .u64 st.col)) (c2 : w.cell? ⟨g, i * 9 + 2, none⟩ = some (.bool st.blank)) (c3 : w.cell? ⟨g, i * 9 + 3, none⟩ = some (.string (tokWord st.tok.toNat)))
    (c4 : w.cell? ⟨g, i * 9 + 4, none⟩ = some (.string st.lit)) (c5 : w.cell? ⟨g, i * 9 + 5, none⟩ = some (.bool st.bad)) (c6 : w.cell? ⟨g, i * 9 + 6, none⟩ = some (.int .i64 (IntKind.i64.wrap st.kind))) (c7 : w.cell? ⟨g, i * 9 + 7, none⟩ = some (.string (opStr st.op))) (c8 : w.cell? ⟨g, i * 9 + 8, none⟩ = some (.int .i64 st.prec))
    (a : Act) (hz : SA ve vo (.slice (some ⟨g, 0, none⟩) n cap) (.int .i64 n) (.int .i64 i) a) (Q : Exit → Act → World → Prop)
    (hQ : ∀ o1 vo' a' w', SA ve vo' (.slice (some ⟨g, 0, none⟩) n cap) (.int .i64 n) (.int .i64 (i + 1 : Nat)) a' → w'.ownsRow base 27 9 vo' (i + 1) (xs ++ outCells st) → ((w.alloc o1).alloc (.cells (outCells st).toArray 27)).grownBy w' vo.ownBlock → Q .normal a' w') : scLoop.wp Tryd.prog Q a w := by
  obtain ⟨x, rfl⟩ := hz.lit
  clear hz
  have hi0 : (0 : Int) ≤ (i : Int) := by omega
  have hi1 : (i : Int) < (n : Int) := by omega
  simp only [scLoop, scBody, bodyOf, Tryd.f15, Option.getD, blkOf, loopOf, cond, Nat.beq]
  go_wp2_with (at_builtin; go_loud (refine sc_app (st := st) hown hbase (by omega) (by rfl) _ _ (by rfl) (by rfl) (by rfl) ?_); intro gg cap' w1 hown1 hgrow)
  exact hQ _ _ _ _ ⟨rfl, rfl, rfl, rfl, rfl, rfl, rfl⟩ hown1 hgrow
theorem sc_out {w : World} {n : Nat} {ve vo vr : Value} (a : Act) (hz : SA ve vo vr (.int .i64 n) (.int .i64 n) a) (Q : Exit → Act → World → Prop)
    (hQ : ∀ a', SA ve vo vr (.int .i64 n) (.int .i64 n) a' → Q (.exit 0) a' w) : scLoop.wp Tryd.prog Q a w := by
  obtain ⟨x, rfl⟩ := hz.lit
  clear hz
  simp only [scLoop, scBody, bodyOf, Tryd.f15, Option.getD, blkOf, loopOf, cond, Nat.beq]
  have hlt : ¬ ((n : Int) < (n : Int)) := by omega
  go_wp2_with fail
  exact ⟨rfl, rfl, rfl, rfl, rfl, rfl, rfl⟩
/-- Old blocks are as they were, behind new ones and an append to a row of the call's own. -/
theorem below_grown {B : Nat} {w0 w w1 : World} {o1 o2 : Obj} {row : Option Nat} (h : Below B w0 w) (hB : B ≤ w.heap.size) (hg : ((w.alloc o1).alloc o2).grownBy w1 row) (hr : ∀ k, row = some k → B ≤ k) : Below B w0 w1 := by
  have h1 := Below.alloc h hB o1
  have h2 := Below.alloc h1 (by simp; omega) o2
  refine h2.trans ⟨hg.os, hg.tape, hg.output, hg.size, fun k hk => hg.block k (by simp; omega) (fun e => ?_)⟩
  have := hr k e.symm; omega
theorem own_row_cell {w : World} {base n g cap : Nat} {e : TypeId} {sz : Nat} {xs : List Value} {j : Nat} {u : Value} (h : w.ownsRow base e sz (.slice (some ⟨g, 0, none⟩) n cap) n xs) (hj : xs[j]? = some u) : w.cell? ⟨g, j, none⟩ = some u := by
  have := h.cells (g := g) rfl j u hj
  have e : (⟨g, 0, none⟩ : Addr).add j = ⟨g, j, none⟩ := by unfold Addr.add; split <;> simp_all
  rw [e] at this; exact this
theorem sc_loop (L : List St) {wS : World} {g cap b0 : Nat} {ve : Value} (hL : L.length ≤ 1000000) (hrow : wS.ownsRow b0 57 9 (.slice (some ⟨g, 0, none⟩) L.length cap) L.length (rowOf L)) (Q : Exit → Act → World → Prop)
    (hQ : ∀ vo a w, SA ve vo (.slice (some ⟨g, 0, none⟩) L.length cap) (.int .i64 L.length) (.int .i64 L.length) a → w.ownsRow wS.heap.size 27 9 vo L.length (flat outCells L) → Below wS.heap.size wS w → Q .normal a w) :
    ∀ (d i : Nat) (vo : Value) (a : Act) (w : World), i + d = L.length → SA ve vo (.slice (some ⟨g, 0, none⟩) L.length cap) (.int .i64 L.length) (.int .i64 i) a → w.ownsRow wS.heap.size 27 9 vo i (flat outCells (L.take i)) → Below wS.heap.size wS w →
      Code.rounds Tryd.prog scLoop (Exit.inBlock 0 Q) (d + 1) a w
  | 0, i, vo, a, w, hi, hz, hown, hB => by
    have hi : i = L.length := by omega
    subst hi
    rw [rounds_succ]
    refine sc_out a hz _ (fun a' z' => ?_)
    show Q .normal a' w
    rw [List.take_length] at hown
    exact hQ vo a' w z' hown hB
  | d + 1, i, vo, a, w, hi, hz, hown, hB => by
    have hlt : i < L.length := by omega
    obtain ⟨s, hs⟩ : ∃ s, L[i]? = some s := ⟨L[i], List.getElem?_eq_getElem hlt⟩
    have cell : ∀ j u, j < 9 → (tokCells s)[j]? = some u → w.cell? ⟨g, i * 9 + j, none⟩ = some u := fun j u hj hu => by
      have h1 : (rowOf L)[i * 9 + j]? = some u := (flat_get (k := 9) (fun _ => rfl) L i j s hs hj).trans hu
      have h2 := own_row_cell hrow h1
      rw [World.cell?_of_block (w := wS) (a := ⟨g, i * 9 + j, none⟩) (hB.block _ (World.block_lt_of_cell? _ _ h2))]
      exact h2
    have hbase : wS.heap.size ≤ w.heap.size := hB.size
    rw [rounds_succ]
    refine sc_round (st := s) hlt hL hown hbase (by have := cell 0 _ (by decide) rfl; exact this) (cell 1 _ (by decide) rfl) (cell 2 _ (by decide) rfl) (cell 3 _ (by decide) rfl) (cell 4 _ (by decide) rfl) (cell 5 _ (by decide) rfl) (cell 6 _ (by decide) rfl) (cell 7 _ (by decide) rfl) (cell 8 _ (by decide) rfl) a hz _ (fun o1 vo' a' w' z' own' grow => ?_)
    show Code.rounds Tryd.prog scLoop (Exit.inBlock 0 Q) (d + 1) a' w'
    refine sc_loop L hL hrow Q hQ d (i + 1) vo' a' w' (by omega) z' ?_ (below_grown hB hbase grow (fun k hk => (own_ety hown hk).1))
    rw [List.take_add_one, hs]
    simp only [Option.toList, flat_append, flat, List.append_nil]
    exact own'
end Sc
end Go.Proofs.YtogkcphobhhbdaaDoor

/- impl.Scan: its second loop. -/
namespace Go.Proofs.YtogkcphobhhbdaaDoor
open Go Go.RowKit Go.Lib
namespace Sc
open Ev
set_option maxRecDepth 100000

/-- Known slots of a frame of 74. -/
structure SB (vt vo vr vn vi : Value) (a : Act) : Prop where
  defers : a.defers = []
  size : a.tmps.size = 74
  s8 : a.tmps[8]? = some vt
  s11 : a.tmps[11]? = some vo
  s53 : a.tmps[53]? = some vr
  s54 : a.tmps[54]? = some vn
  s55 : a.tmps[55]? = some vi
theorem SB.lit {vt vo vr vn vi : Value} {a : Act} (h : SB vt vo vr vn vi a) : ∃ x : Nat → Value, a = { tmps := #[x 0, x 1, x 2, x 3, x 4, x 5, x 6, x 7, vt, x 9, x 10, vo, x 12, x 13, x 14, x 15, x 16, x 17, x 18, x 19, x 20, x 21, x 22, x 23, x 24, x 25, x 26, x 27, x 28, x 29, x 30, x 31, x 32, x 33, x 34, x 35, x 36, x 37, x 38, x 39, x 40, x 41, x 42, x 43, x 44, x 45, x 46, x 47, x 48, x 49, x 50, x 51, x 52, vr, vn, vi, x 56, x 57, x 58, x 59, x 60, x 61, x 62, x 63, x 64, x 65, x 66, x 67, x 68, x 69, x 70, x 71, x 72, x 73], defers := [] } := by
  refine ⟨fun i => a.tmps.getD i undef, ?_⟩
  obtain ⟨t, d⟩ := a
  obtain ⟨h1, h2, k8, k11, k53, k54, k55⟩ := h
  simp only at h1 h2 k8 k11 k53 k54 k55
  subst h1
  have e8 : t.getD 8 undef = vt := by rw [Array.getD_eq_getD_getElem?, k8]; rfl
  have e11 : t.getD 11 undef = vo := by rw [Array.getD_eq_getD_getElem?, k11]; rfl
  have e53 : t.getD 53 undef = vr := by rw [Array.getD_eq_getD_getElem?, k53]; rfl
  have e54 : t.getD 54 undef = vn := by rw [Array.getD_eq_getD_getElem?, k54]; rfl
  have e55 : t.getD 55 undef = vi := by rw [Array.getD_eq_getD_getElem?, k55]; rfl
  have ht := tmpsN 74 t h2
  rw [← e8, ← e11, ← e53, ← e54, ← e55]
  exact congrArg (fun t => ({ tmps := t, defers := [] } : Act)) ht
theorem SB.of {vt vo vr vn vi : Value} (x : Nat → Value) : SB vt vo vr vn vi { tmps := #[x 0, x 1, x 2, x 3, x 4, x 5, x 6, x 7, vt, x 9, x 10, vo, x 12, x 13, x 14, x 15, x 16, x 17, x 18, x 19, x 20, x 21, x 22, x 23, x 24, x 25, x 26, x 27, x 28, x 29, x 30, x 31, x 32, x 33, x 34, x 35, x 36, x 37, x 38, x 39, x 40, x 41, x 42, x 43, x 44, x 45, x 46, x 47, x 48, x 49, x 50, x 51, x 52, vr, vn, vi, x 56, x 57, x 58, x 59, x 60, x 61, x 62, x 63, x 64, x 65, x 66, x 67, x 68, x 69, x 70, x 71, x 72, x 73], defers := [] } := ⟨rfl, rfl, rfl, rfl, rfl, rfl, rfl⟩

noncomputable abbrev snLoop : Code := loopOf (blkOf scBody 2)
def inNote (n : Note) : List Value := [.int .u64 n.line, .int .u64 n.col, .string n.msg]
/-- A note as it is handed on. -/
def outNote (n : Note) : List Value := [.int .i64 (wrap64 n.line), .int .i64 (wrap64 n.col), .string n.msg]
theorem noteCells_flat : ∀ L : List Note, noteCells L = flat inNote L
  | [] => rfl
  | n :: r => by simp [noteCells, flat, inNote, noteCells_flat r]
theorem info_note : (Tryd.prog.info? 61).map (fun i => (i.zero, i.size, i.bytes)) = some (some (.agg #[.int .i64 0, .int .i64 0, .string ⟨#[]⟩]), 3, 32) := by kernel_rfl
theorem sn_app {w : World} {o1 : Obj} {base n : Nat} {v : Value} {xs : List Value} {st : Note} (hown : w.ownsRow base 61 3 v n xs) (hbase : base ≤ w.heap.size) (hn : n ≤ 60000000)
    {ops : Array Oper} {rest : List Oper} {o : Oper} {a : Act} {Q : Exit → Act → World → Prop} (hgd : o.guard = none) (s x : Operand)
    (ho : o.op = .call { callee := .builtin .append, args := #[s, x], argTypes := #[23, 23] }) (hs : a.eval s = v) (hx : a.eval x = .slice (some ⟨w.heap.size + 1, 0, none⟩) 1 1)
    (h : ∀ g cap w', w'.ownsRow base 61 3 (.slice (some ⟨g, 0, none⟩) (n + 1) cap) (n + 1) (xs ++ outNote st) → ((w.alloc o1).alloc (.cells (outNote st).toArray 61)).grownBy w' v.ownBlock → wpList Tryd.prog ops Q rest (a.put o.dst (.slice (some ⟨g, 0, none⟩) (n + 1) cap)) w') :
    wpList Tryd.prog ops Q (o :: rest) a ((w.alloc o1).alloc (.cells (outNote st).toArray 61)) := by
  obtain ⟨i0, hi0, hz0, hz1, hz2⟩ := info_parts info_note
  have hsz : ((w.alloc o1).alloc (.cells (outNote st).toArray 61)).heap.size = w.heap.size + 2 := by simp
  have hsz1 : (w.alloc o1).heap.size = w.heap.size + 1 := by simp
  have hlen : (outNote st).length = 3 := rfl
  have hml : n + 1 ≤ maxLen := by simp only [maxLen]; omega
  have hone : ∀ u ∈ outNote st, u.oneCell' = true := by simp [outNote, Value.oneCell']
  have hnews := World.news_of_block (cs := (outNote st).toArray) (t := 61) (fr := (0, 0)) (heap_alloc_new (w.alloc o1) (.cells (outNote st).toArray 61))
  rw [hsz1] at hnews
  exact wpList_append_lies _ hgd s x 23 ho base 61 i0 _ 3 32 Tryd.underlying23 hi0 hz0 hz1 hz2 rfl (by omega) v n xs hs (own_alloc (own_alloc hown _) _)
    ⟨w.heap.size + 1, 0, none⟩ 1 1 (outNote st) hx hlen hnews hone
    (by omega) hml (by omega) (by rw [hsz]; omega) (w.heap.size + 2) hsz (fun g cap w' h1 h2 _ _ => h g cap w' h1 h2)
set_option maxHeartbeats 3200000 in
theorem sn_round {w : World} {st : Note} {g cap n i base : Nat} {vt vo : Value} {xs : List Value} (hi : i < n) (hn : n ≤ 60000000) (hown : w.ownsRow base 61 3 vo i xs) (hbase : base ≤ w.heap.size)
    (c0 : w.cell? ⟨g, i * 3, none⟩ = some (.int .u64 st.line)) (c1 : w.cell? ⟨g, i * 3 + 1, none⟩ = some (.int .u64 st.col)) (c2 : w.cell? ⟨g, i * 3 + 2, none⟩ = some (.string st.msg))
    (a : Act) (hz : SB vt vo (.slice (some ⟨g, 0, none⟩) n cap) (.int .i64 n) (.int .i64 i) a) (Q : Exit → Act → World → Prop)
    (hQ : ∀ o1 vo' a' w', SB vt vo' (.slice (some ⟨g, 0, none⟩) n cap) (.int .i64 n) (.int .i64 (i + 1 : Nat)) a' → w'.ownsRow base 61 3 vo' (i + 1) (xs ++ outNote st) → ((w.alloc o1).alloc (.cells (outNote st).toArray 61)).grownBy w' vo.ownBlock → Q .normal a' w') : snLoop.wp Tryd.prog Q a w := by
  obtain ⟨x, rfl⟩ := hz.lit
  clear hz
  have hi0 : (0 : Int) ≤ (i : Int) := by omega
  have hi1 : (i : Int) < (n : Int) := by omega
  simp only [snLoop, scBody, bodyOf, Tryd.f15, Option.getD, blkOf, loopOf, cond, Nat.beq]
  go_wp2_with (at_builtin; refine sn_app (st := st) hown hbase (by omega) (by rfl) _ _ (by rfl) (by rfl) (by rfl) ?_; intro gg cap' w1 hown1 hgrow)
  exact hQ _ _ _ _ ⟨rfl, rfl, rfl, rfl, rfl, rfl, rfl⟩ hown1 hgrow
theorem sn_out {w : World} {n : Nat} {vt vo vr : Value} (a : Act) (hz : SB vt vo vr (.int .i64 n) (.int .i64 n) a) (Q : Exit → Act → World → Prop)
    (hQ : ∀ a', SB vt vo vr (.int .i64 n) (.int .i64 n) a' → Q (.exit 2) a' w) : snLoop.wp Tryd.prog Q a w := by
  obtain ⟨x, rfl⟩ := hz.lit
  clear hz
  simp only [snLoop, scBody, bodyOf, Tryd.f15, Option.getD, blkOf, loopOf, cond, Nat.beq]
  have hlt : ¬ ((n : Int) < (n : Int)) := by omega
  go_wp2_with fail
  exact ⟨rfl, rfl, rfl, rfl, rfl, rfl, rfl⟩
theorem sn_loop (L : List Note) {wS : World} {b0 : Nat} {vt vr : Value} (hL : L.length ≤ 60000000) (hrow : wS.ownsRow b0 59 3 vr L.length (noteCells L)) (Q : Exit → Act → World → Prop)
    (hQ : ∀ vo a w, SB vt vo vr (.int .i64 L.length) (.int .i64 L.length) a → w.ownsRow wS.heap.size 61 3 vo L.length (flat outNote L) → Below wS.heap.size wS w → Q .normal a w) :
    ∀ (d i : Nat) (vo : Value) (a : Act) (w : World), i + d = L.length → SB vt vo vr (.int .i64 L.length) (.int .i64 i) a → w.ownsRow wS.heap.size 61 3 vo i (flat outNote (L.take i)) → Below wS.heap.size wS w →
      Code.rounds Tryd.prog snLoop (Exit.inBlock 2 Q) (d + 1) a w
  | 0, i, vo, a, w, hi, hz, hown, hB => by
    have hi : i = L.length := by omega
    subst hi
    rw [rounds_succ]
    refine sn_out a hz _ (fun a' z' => ?_)
    show Q .normal a' w
    rw [List.take_length] at hown
    exact hQ vo a' w z' hown hB
  | d + 1, i, vo, a, w, hi, hz, hown, hB => by
    have hlt : i < L.length := by omega
    obtain ⟨s, hs⟩ : ∃ s, L[i]? = some s := ⟨L[i], List.getElem?_eq_getElem hlt⟩
    obtain ⟨g, cap, hv, _, _⟩ := hrow.form (by omega)
    have hrow2 := hrow
    rw [hv] at hrow2 hz
    have cell : ∀ j u, j < 3 → (inNote s)[j]? = some u → w.cell? ⟨g, i * 3 + j, none⟩ = some u := fun j u hj hu => by
      have h1 : (noteCells L)[i * 3 + j]? = some u := by rw [noteCells_flat]; exact (flat_get (k := 3) (fun _ => rfl) L i j s hs hj).trans hu
      have h2 := own_row_cell hrow2 h1
      rw [World.cell?_of_block (w := wS) (a := ⟨g, i * 3 + j, none⟩) (hB.block _ (World.block_lt_of_cell? _ _ h2))]
      exact h2
    have hbase : wS.heap.size ≤ w.heap.size := hB.size
    rw [rounds_succ]
    refine sn_round (st := s) hlt hL hown hbase (by have := cell 0 _ (by decide) rfl; exact this) (cell 1 _ (by decide) rfl) (cell 2 _ (by decide) rfl) a hz _ (fun o1 vo' a' w' z' own' grow => ?_)
    show Code.rounds Tryd.prog snLoop (Exit.inBlock 2 Q) (d + 1) a' w'
    rw [← hv] at z'
    refine sn_loop L hL hrow Q hQ d (i + 1) vo' a' w' (by omega) z' ?_ (below_grown hB hbase grow (fun k hk => (own_ety hown hk).1))
    rw [List.take_add_one, hs]
    simp only [Option.toList, flat_append, flat, List.append_nil]
    exact own'
end Sc
end Go.Proofs.YtogkcphobhhbdaaDoor

/- impl.Scan told whole. -/
namespace Go.Proofs.YtogkcphobhhbdaaDoor
open Go Go.RowKit Go.Lib
namespace Sc
open Ev
set_option maxRecDepth 100000

noncomputable abbrev sP (n : Nat) : Code := fstC (cutTail n scBody)
theorem sc_body : (Tryd.f15).body = some (.seq (sP 0) (.seq (sP 1) (.seq (sP 2) (.seq (.seq (fstC (sP 3)) (.block 0 (.loop scLoop))) (cutTail 4 scBody))))) := by kernel_rfl
theorem sc_body2 : cutTail 4 scBody = .seq (sP 4) (.seq (.seq (fstC (sP 5)) (.block 2 (.loop snLoop))) (cutTail 6 scBody)) := by kernel_rfl
/-- The world in which the bytes lie. -/
noncomputable def wB (w : World) (src : ByteArray) : World := w.drew.alloc (.cells (bytesRow src (grownCap w src.size 0 5)) 5 ((bytesRow src (grownCap w src.size 0 5)).size, (bytesRow src (grownCap w src.size 0 5)).size + 1))
theorem start_of {w : World} {ea : Addr} {src : ByteArray} (hG : Glob w ea) (hn : src.size ≤ 2048) : Start w (wB w src) w.heap.size (grownCap w src.size 0 5) ea src := by
  have hsz : (wB w src).heap.size = w.heap.size + 1 := by simp [wB]
  refine ⟨hG, hn, ?_, Nat.le_refl _, by rw [hsz]; omega, fun j hj => ?_⟩
  · exact Below.alloc (Below.drew (Below.refl _ _)) (Nat.le_refl _) _
  · have hb : (wB w src).heap[w.heap.size]? = some (.cells (bytesRow src (grownCap w src.size 0 5)) 5 ((bytesRow src (grownCap w src.size 0 5)).size, (bytesRow src (grownCap w src.size 0 5)).size + 1)) := heap_alloc_new w.drew _
    rw [cell_of_block' hb]
    have hj' : j < src.data.size := hj
    rw [bytesRow, Array.getElem?_append_left (by simpa using hj')]
    simp only [Array.getElem?_map, Array.getElem?_eq_getElem hj', Option.map_some]
    show _ = some (Value.int .u8 ((src.data[j]!).toNat : Int))
    rw [getElem!_pos src.data j hj']
theorem bytes_conv (w : World) (src : ByteArray) : (convert 9 45 (.string src)).run Tryd.prog w = .ok (.slice (some ⟨w.heap.size, 0, none⟩) src.size (grownCap w src.size 0 5)) (wB w src) :=
  run_bytes_of_string w 9 45 5 src Tryd.underlying9 Tryd.underlying45 Tryd.underlying5
set_option maxHeartbeats 1600000 in
theorem sc_first {w : World} {ea : Addr} {src : ByteArray} (hG : Glob w ea) (hn : src.size ≤ 2048) (m : Int) (B C : Code) (Q : Exit → Act → World → Prop)
    (hQ : ∀ g cap ve a w', w'.ownsRow ((wB w src).heap.size + 4) 57 9 (.slice (some ⟨g, 0, none⟩) (toks src (IntKind.u64.wrap m)).length cap) (toks src (IntKind.u64.wrap m)).length (rowOf (toks src (IntKind.u64.wrap m))) → w'.ownsRow ((wB w src).heap.size + 4) 59 3 ve (last src (IntKind.u64.wrap m)).notes.length (noteCells (last src (IntKind.u64.wrap m)).notes) → Below w.heap.size w w' →
      SA ve (.slice none 0 0) (.slice (some ⟨g, 0, none⟩) (toks src (IntKind.u64.wrap m)).length cap) (.int .i64 (toks src (IntKind.u64.wrap m)).length) (.int .i64 (0 : Nat)) a → B.wp Tryd.prog (Exit.then (fun a w => C.wp Tryd.prog Q a w) Q) a w') :
    (Code.seq (sP 0) (.seq (sP 1) (.seq (sP 2) (.seq (.seq (fstC (sP 3)) B) C)))).wp Tryd.prog Q { tmps := #[.string src, .int .i64 m] ++ Array.replicate 72 undef, defers := [] } w := by
  have hZ := zzscan (start_of hG hn) (IntKind.u64.wrap m)
  have hc := bytes_conv w src
  have hlen := (toks_good (IntKind.u64.wrap m) hn).ne
  simp only [sP, fstC, scBody, bodyOf, Tryd.f15, Option.getD, cutTail, cutN, Option.map, Array.replicate_succ, Array.replicate_zero, List.push_toArray, List.append_toArray, List.nil_append, List.cons_append]
  go_wp2_with (first | (rw [hc]; go_simp) | (go_at_call 30; refine hZ.mono ?_; rintro en w' ⟨v, ve, rfl, h1, h2, h3⟩; obtain ⟨g, cap, rfl, _, _⟩ := h1.form (List.length_pos_iff.2 hlen)))
  rename_i K hK
  refine Code.wp_mono (fun e a w h => ?_) (hQ g cap ve _ w' h1 h2 h3 ⟨rfl, rfl, rfl, rfl, rfl, rfl, rfl⟩)
  cases e <;> first | exact hK _ _ h | exact h
theorem own_weak {w : World} {b b' n : Nat} {e : TypeId} {sz : Nat} {v : Value} {xs : List Value} (h : w.ownsRow b' e sz v n xs) (hb : b ≤ b') : w.ownsRow b e sz v n xs := by
  obtain ⟨h1, h2⟩ := h
  refine ⟨h1, ?_⟩
  rcases h2 with h2 | ⟨g, cap, cur, hv, hg, r⟩
  · exact .inl h2
  · exact .inr ⟨g, cap, cur, hv, by omega, r⟩
theorem below_weak {b b' : Nat} {w w' : World} (h : Below b' w w') (hb : b ≤ b') : Below b w w' := ⟨h.os, h.tape, h.output, h.size, fun k hk => h.block k (by omega)⟩
theorem ve_len {w : World} {b0 n : Nat} {ve : Value} {xs : List Value} (h : w.ownsRow b0 59 3 ve n xs) : ∃ b cap, ve = .slice b n cap := by
  rcases h.2 with ⟨rfl, rfl⟩ | ⟨g, cap, cur, rfl, _⟩
  · exact ⟨_, _, rfl⟩
  · exact ⟨_, _, rfl⟩
set_option maxHeartbeats 1600000 in
theorem sc_second {w : World} {b0 n : Nat} {ve vo vr vn vi : Value} {xs : List Value} (h : w.ownsRow b0 59 3 ve n xs) (a : Act) (hz : SA ve vo vr vn vi a) (B C : Code) (Q : Exit → Act → World → Prop)
    (hQ : ∀ a, SB vo (.slice none 0 0) ve (.int .i64 n) (.int .i64 (0 : Nat)) a → B.wp Tryd.prog (Exit.then (fun a w => C.wp Tryd.prog Q a w) Q) a w) :
    (Code.seq (sP 4) (.seq (.seq (fstC (sP 5)) B) C)).wp Tryd.prog Q a w := by
  obtain ⟨b, cap, rfl⟩ := ve_len h
  clear h
  obtain ⟨x, rfl⟩ := hz.lit
  clear hz
  simp only [sP, fstC, scBody, bodyOf, Tryd.f15, Option.getD, cutTail, cutN, Option.map]
  go_wp2_with fail
  rename_i K hK
  refine Code.wp_mono (fun e a w h => ?_) (hQ _ ⟨rfl, rfl, rfl, rfl, rfl, rfl, rfl⟩)
  cases e <;> first | exact hK _ _ h | exact h
theorem sc_third {w : World} {vt vo vr vn vi : Value} (a : Act) (hz : SB vt vo vr vn vi a) (Q : Exit → Act → World → Prop)
    (hQ : ∀ a', a'.defers = [] → a'.tmps[4]? = some vt → a'.tmps[5]? = some vo → Q .ret a' w) : (cutTail 6 scBody).wp Tryd.prog Q a w := by
  obtain ⟨x, rfl⟩ := hz.lit
  clear hz
  simp only [scBody, bodyOf, Tryd.f15, Option.getD, cutTail, cutN, Option.map]
  go_wp2_with fail
  all_goals first | exact hQ _ rfl rfl rfl | exact rfl
theorem sc_res {a : Act} {w : World} {v ve : Value} (h4 : a.tmps[4]? = some v) (h5 : a.tmps[5]? = some ve) : (results Tryd.f15 a.tmps).run Tryd.prog w = .ok (.tuple #[v, ve]) w := by
  have e : (Tryd.f15).results = #[.tmp 4, .tmp 5] := by kernel_rfl
  simp [results, e, h4, h5, go_sem]
/-- impl.Scan: the tokens, and what was told. -/
theorem scan_walk {w : World} {ea : Addr} {src : ByteArray} (hG : Glob w ea) (hn : src.size ≤ 2048) (m : Int) :
    Calls Tryd.prog 15 #[.string src, .int .i64 m] w fun en w' => ∃ v ve, en = .returned (.tuple #[v, ve]) ∧
      w'.ownsRow w.heap.size 27 9 v (toks src (IntKind.u64.wrap m)).length (flat outCells (toks src (IntKind.u64.wrap m))) ∧
      w'.ownsRow w.heap.size 61 3 ve (last src (IntKind.u64.wrap m)).notes.length (flat outNote (last src (IntKind.u64.wrap m)).notes) ∧ Below w.heap.size w w' := by
  refine calls_of_wp Tryd.func15 sc_body ?_
  have hnt : (Tryd.f15).ntmps - (#[.string src, .int .i64 m] : Array Value).size = 72 := by kernel_rfl
  rw [hnt]
  refine sc_first hG hn m _ _ _ (fun g cap ve a w1 o1 o2 b1 z1 => ?_)
  have hl1 := toks_len src (IntKind.u64.wrap m) hn
  have hl2 := last_cn (IntKind.u64.wrap m) hn
  refine wp_block (wp_loop_rounds ((toks src (IntKind.u64.wrap m)).length + 1) ?_)
  refine sc_loop (toks src (IntKind.u64.wrap m)) (by omega) o1 _ (fun vo a2 w2 z2 own2 b2 => ?_) _ 0 _ a w1 (Nat.zero_add _) z1 (World.ownsRow_nil _ _ _ _) (Below.refl _ _)
  show (cutTail 4 scBody).wp _ _ a2 w2
  have o2' := own_below b2 o2
  rw [sc_body2]
  refine sc_second o2' a2 z2 _ _ _ (fun a3 z3 => ?_)
  refine wp_block (wp_loop_rounds ((last src (IntKind.u64.wrap m)).notes.length + 1) ?_)
  refine sn_loop (last src (IntKind.u64.wrap m)).notes (by omega) o2' _ (fun vn a4 w4 z4 own4 b4 => ?_) _ 0 _ a3 w2 (Nat.zero_add _) z3 (World.ownsRow_nil _ _ _ _) (Below.refl _ _)
  show (cutTail 6 scBody).wp _ _ a4 w4
  have hs1 := b1.size; have hs2 := b2.size
  refine sc_third a4 z4 _ (fun a5 d0 d4 d5 => ⟨d0, _, sc_res d4 d5, vo, vn, rfl, ?_, ?_, ?_⟩)
  · exact own_weak (own_below b4 own2) hs1
  · exact own_weak own4 (by omega)
  · exact b1.trans ((below_weak b2 hs1).trans (below_weak b4 (by omega)))
end Sc
end Go.Proofs.YtogkcphobhhbdaaDoor

/- spec.Told walked. -/
namespace Go.Proofs.YtogkcphobhhbdaaDoor
open Go Go.RowKit Go.Lib
namespace Sc
open Ev
set_option maxRecDepth 100000

def sEq : ByteArray := ⟨#[61]⟩
def sSemiW : ByteArray := ⟨#[59]⟩
/-- What a token of the program is: its class, its text. -/
def toldF (nm lt op : ByteArray) : Int × ByteArray :=
  if nm.toList = [69, 79, 70] then (0, ⟨#[]⟩)
  else if nm.toList = [110, 97, 109, 101] then (1, lt)
  else if nm.toList = [108, 105, 116, 101, 114, 97, 108] then (2, lt)
  else if nm.toList = [111, 112] then (3, op)
  else if nm.toList = [111, 112, 61] then (3, op ++ sEq)
  else if nm.toList = [111, 112, 111, 112] then (3, op ++ op)
  else if nm.toList = [59] then (if lt.toList = [115, 101, 109, 105, 99, 111, 108, 111, 110] then (4, sSemiW) else (4, ⟨#[]⟩))
  else (3, nm)
theorem told_res {a : Act} {w : World} {v ve : Value} (h4 : a.tmps[2]? = some v) (h5 : a.tmps[3]? = some ve) : (results Tryd.f16 a.tmps).run Tryd.prog w = .ok (.tuple #[v, ve]) w := by
  have e : (Tryd.f16).results = #[.tmp 2, .tmp 3] := by kernel_rfl
  simp [results, e, h4, h5, go_sem]
set_option maxHeartbeats 3200000 in
theorem told_walk (w : World) (li co kd pr : Int) (bk bd : Bool) (nm lt op : ByteArray) (hop : op.size ≤ 1000) :
    Calls Tryd.prog 16 #[.agg #[.int .i64 li, .int .i64 co, .bool bk, .string nm, .string lt, .bool bd, .int .i64 kd, .string op, .int .i64 pr]] w fun e w' =>
      e = .returned (.tuple #[.int .i64 (toldF nm lt op).1, .string (toldF nm lt op).2]) ∧ Below w.heap.size w w' := by
  have ha1 : op.size + 1 ≤ 9223372036854775807 := by omega
  have ha2 : op.size + op.size ≤ 9223372036854775807 := by omega
  have ha3 : (op.size : Int) ≤ 8388608 := by omega
  go_enter Tryd.func16, Tryd.ntmps16
  go_wp2_with fail
  all_goals try (go_quiet (fail))
  all_goals (go_wp2_with fail)
  all_goals first | refine ⟨rfl, _, told_res rfl rfl, ?_, ?_⟩ | trace_state
  all_goals first
    | exact Below.alloc (Below.refl _ _) (Nat.le_refl _) _
    | exact Below.drew (Below.alloc (Below.refl _ _) (Nat.le_refl _) _)
    | exact (Below.alloc (Below.refl _ _) (Nat.le_refl _) _).trans ⟨rfl, rfl, rfl, Nat.le_refl _, fun _ _ => rfl⟩
    | skip
  all_goals (unfold toldF; simp_all [sEq, sSemiW])
end Sc
end Go.Proofs.YtogkcphobhhbdaaDoor

/- FnEnds: a round of its loop. -/
namespace Go.Proofs.YtogkcphobhhbdaaDoor
open Go Go.RowKit Go.Lib
namespace Sc
open Ev
set_option maxRecDepth 100000

/-- Known slots of a frame of 84. -/
structure SE (v5 vr vn vi : Value) (a : Act) : Prop where
  defers : a.defers = []
  size : a.tmps.size = 84
  s5 : a.tmps[5]? = some v5
  s25 : a.tmps[25]? = some vr
  s26 : a.tmps[26]? = some vn
  s27 : a.tmps[27]? = some vi
theorem SE.lit {v5 vr vn vi : Value} {a : Act} (h : SE v5 vr vn vi a) : ∃ x : Nat → Value, a = { tmps := #[x 0, x 1, x 2, x 3, x 4, v5, x 6, x 7, x 8, x 9, x 10, x 11, x 12, x 13, x 14, x 15, x 16, x 17, x 18, x 19, x 20, x 21, x 22, x 23, x 24, vr, vn, vi, x 28, x 29, x 30, x 31, x 32, x 33, x 34, x 35, x 36, x 37, x 38, x 39, x 40, x 41, x 42, x 43, x 44, x 45, x 46, x 47, x 48, x 49, x 50, x 51, x 52, x 53, x 54, x 55, x 56, x 57, x 58, x 59, x 60, x 61, x 62, x 63, x 64, x 65, x 66, x 67, x 68, x 69, x 70, x 71, x 72, x 73, x 74, x 75, x 76, x 77, x 78, x 79, x 80, x 81, x 82, x 83], defers := [] } := by
  refine ⟨fun i => a.tmps.getD i undef, ?_⟩
  obtain ⟨t, d⟩ := a
  obtain ⟨h1, h2, k5, k25, k26, k27⟩ := h
  simp only at h1 h2 k5 k25 k26 k27
  subst h1
  have e5 : t.getD 5 undef = v5 := by rw [Array.getD_eq_getD_getElem?, k5]; rfl
  have e25 : t.getD 25 undef = vr := by rw [Array.getD_eq_getD_getElem?, k25]; rfl
  have e26 : t.getD 26 undef = vn := by rw [Array.getD_eq_getD_getElem?, k26]; rfl
  have e27 : t.getD 27 undef = vi := by rw [Array.getD_eq_getD_getElem?, k27]; rfl
  have ht := tmpsN 84 t h2
  rw [← e5, ← e25, ← e26, ← e27]
  exact congrArg (fun t => ({ tmps := t, defers := [] } : Act)) ht
theorem SE.of {v5 vr vn vi : Value} (x : Nat → Value) : SE v5 vr vn vi { tmps := #[x 0, x 1, x 2, x 3, x 4, v5, x 6, x 7, x 8, x 9, x 10, x 11, x 12, x 13, x 14, x 15, x 16, x 17, x 18, x 19, x 20, x 21, x 22, x 23, x 24, vr, vn, vi, x 28, x 29, x 30, x 31, x 32, x 33, x 34, x 35, x 36, x 37, x 38, x 39, x 40, x 41, x 42, x 43, x 44, x 45, x 46, x 47, x 48, x 49, x 50, x 51, x 52, x 53, x 54, x 55, x 56, x 57, x 58, x 59, x 60, x 61, x 62, x 63, x 64, x 65, x 66, x 67, x 68, x 69, x 70, x 71, x 72, x 73, x 74, x 75, x 76, x 77, x 78, x 79, x 80, x 81, x 82, x 83], defers := [] } := ⟨rfl, rfl, rfl, rfl, rfl, rfl⟩

noncomputable abbrev enBody : Code := bodyOf Tryd.f3
noncomputable abbrev enLoop : Code := loopOf (blkOf enBody 0)
/-- The cells of a token of the row. -/
structure Row9 (w : World) (g i : Nat) (li co kd pr : Int) (bk bd : Bool) (nm lt op : ByteArray) : Prop where
  c0 : w.cell? ⟨g, i * 9, none⟩ = some (.int .i64 li)
  c1 : w.cell? ⟨g, i * 9 + 1, none⟩ = some (.int .i64 co)
  c2 : w.cell? ⟨g, i * 9 + 2, none⟩ = some (.bool bk)
  c3 : w.cell? ⟨g, i * 9 + 3, none⟩ = some (.string nm)
  c4 : w.cell? ⟨g, i * 9 + 4, none⟩ = some (.string lt)
  c5 : w.cell? ⟨g, i * 9 + 5, none⟩ = some (.bool bd)
  c6 : w.cell? ⟨g, i * 9 + 6, none⟩ = some (.int .i64 kd)
  c7 : w.cell? ⟨g, i * 9 + 7, none⟩ = some (.string op)
  c8 : w.cell? ⟨g, i * 9 + 8, none⟩ = some (.int .i64 pr)
theorem below_drewN (B : Nat) (w : World) (n : Nat) : Below B w (w.drewN n) := ⟨rfl, rfl, rfl, Nat.le_refl _, fun _ _ => rfl⟩
theorem below_cell {w w' : World} {cs : Array Value} {ty : TypeId} (h : Below (w.alloc (.cells cs ty)).heap.size (w.alloc (.cells cs ty)) w') {k : Nat} {v : Value} (hk : cs[k]? = some v) : w'.cell? ⟨w.heap.size, k, none⟩ = some v := by
  have hb : w'.heap[w.heap.size]? = some (.cells cs ty) := by rw [h.block _ (by simp)]; exact heap_alloc_new w _
  rw [cell_of_block' hb]; exact hk
theorem below_old {w w' : World} {o : Obj} (h : Below (w.alloc o).heap.size (w.alloc o) w') : Below w.heap.size w w' :=
  (Below.alloc (Below.refl _ _) (Nat.le_refl _) o).trans (below_weak h (by simp))
set_option maxHeartbeats 3200000 in
theorem en_round {w : World} {g cap n i : Nat} {li co kd pr lp cp : Int} {bk bd : Bool} {nm lt op : ByteArray} (hn : n ≤ 1000000) (hi : i < n) (hr : Row9 w g i li co kd pr bk bd nm lt op) (hop : op.size ≤ 1000)
    (hc : ((toldF nm lt op).1 == 0) = decide ((i : Int) = (n : Int) - 1))
    (hp : 0 < i → w.cell? ⟨g, (i - 1) * 9, none⟩ = some (.int .i64 lp) ∧ w.cell? ⟨g, (i - 1) * 9 + 1, none⟩ = some (.int .i64 cp) ∧ (lp < li ∨ (lp = li ∧ cp ≤ co)))
    (a : Act) (hz : SE (.slice (some ⟨g, 0, none⟩) n cap) (.slice (some ⟨g, 0, none⟩) n cap) (.int .i64 n) (.int .i64 i) a) (Q : Exit → Act → World → Prop)
    (hQ : ∀ a' w', SE (.slice (some ⟨g, 0, none⟩) n cap) (.slice (some ⟨g, 0, none⟩) n cap) (.int .i64 n) (.int .i64 (i + 1 : Nat)) a' → Below w.heap.size w w' → Q .normal a' w') : enLoop.wp Tryd.prog Q a w := by
  obtain ⟨x, rfl⟩ := hz.lit
  obtain ⟨c0, c1, c2, c3, c4, c5, c6, c7, c8⟩ := hr
  clear hz
  have hg := World.block_lt_of_cell? w _ c0
  have hi0 : (0 : Int) ≤ (i : Int) := by omega
  have hi1 : (i : Int) < (n : Int) := by omega
  have hT := fun w => told_walk w li co kd pr bk bd nm lt op hop
  have hw1 : IntKind.i64.wrap ((n : Int) - 1) = (n : Int) - 1 := i64_small (by omega) (by omega)
  simp only [enLoop, enBody, bodyOf, Tryd.f3, Option.getD, blkOf, loopOf, cond, Nat.beq]
  go_wp2_with (go_at_call 16; refine (hT _).mono ?_; rintro en w' ⟨rfl, hB⟩)
  · rename_i h
    exfalso; revert h
    cases hd : decide ((i : Int) = (n : Int) - 1) <;> simp_all
  · have d0 := below_cell hB (k := 0) (v := .int .i64 li) rfl
    have d1 := below_cell hB (k := 1) (v := .int .i64 co) rfl
    have hB1 := below_old hB
    clear hB hT hc
    rename_i h K hK
    clear h
    cases i with
    | zero =>
      go_quiet (fail)
      simp only [Exit.then]
      refine hK _ _ ?_
      clear hK
      go_wp2_with fail
      exact hQ _ _ ⟨rfl, rfl, rfl, rfl, rfl, rfl⟩ (hB1.trans (below_drewN _ _ _))
    | succ j =>
      obtain ⟨p0, p1, hlx⟩ := hp (Nat.succ_pos _)
      simp only [Nat.add_sub_cancel] at p0 p1
      have q0 : w'.cell? ⟨g, j * 9, none⟩ = some (.int .i64 lp) := by rw [World.cell?_of_block (w := w) (a := ⟨g, j * 9, none⟩) (hB1.block _ hg)]; exact p0
      have q1 : w'.cell? ⟨g, j * 9 + 1, none⟩ = some (.int .i64 cp) := by rw [World.cell?_of_block (w := w) (a := ⟨g, j * 9 + 1, none⟩) (hB1.block _ hg)]; exact p1
      have hwj : IntKind.i64.wrap ((j : Int) + 1 - 1) = (j : Int) := by rw [Int.add_sub_cancel]; exact i64_small (by omega) (by omega)
      have hj0 : (0 : Int) ≤ (j : Int) := by omega
      have hj1 : (j : Int) < (n : Int) := by omega
      clear hp c0 c1 c2 c3 c4 c5 c6 c7 c8 p0 p1
      rcases hlx with h1 | ⟨rfl, h1⟩
      · have n1 : ¬ li < lp := by omega
        have n2 : (li == lp) = false := by simp; omega
        go_quiet (fail)
        simp only [Exit.then]
        refine hK _ _ ?_
        clear hK
        go_wp2_with fail
        exact hQ _ _ ⟨rfl, rfl, rfl, rfl, rfl, rfl⟩ (hB1.trans (below_drewN _ _ _))
      · have n1 : ¬ co < cp := by omega
        go_quiet (fail)
        simp only [Exit.then]
        refine hK _ _ ?_
        clear hK
        go_wp2_with fail
        exact hQ _ _ ⟨rfl, rfl, rfl, rfl, rfl, rfl⟩ (hB1.trans (below_drewN _ _ _))
end Sc
end Go.Proofs.YtogkcphobhhbdaaDoor

/- FnEnds walked: true at every text. -/
namespace Go.Proofs.YtogkcphobhhbdaaDoor
open Go Go.RowKit Go.Lib
namespace Sc
open Ev
set_option maxRecDepth 100000

theorem word_end : ((List.range 45).all fun k => !((tokWord (k + 2)).toList == [69, 79, 70])) = true := by kernel_rfl
theorem word_one : (tokWord 1).toList = [69, 79, 70] := by kernel_rfl
theorem op_small : ((List.range 24).all fun k => decide ((opStr (k : Nat)).size ≤ 1000)) = true := by kernel_rfl
theorem op_size {s : St} (h : Rk s) : (opStr s.op).size ≤ 1000 := by
  obtain ⟨_, h1, h2⟩ := h
  have := List.all_eq_true.1 op_small s.op.toNat (List.mem_range.2 (by omega))
  rw [show ((s.op.toNat : Nat) : Int) = s.op by omega] at this
  exact of_decide_eq_true this
/-- The end is told by its name. -/
theorem told_end {s : St} (h : Rk s) (lt op : ByteArray) : (toldF (tokWord s.tok.toNat) lt op).1 = 0 ↔ s.tok = 1 := by
  obtain ⟨⟨h1, h2⟩, _⟩ := h
  by_cases h0 : s.tok = 1
  · rw [h0]
    show (toldF (tokWord 1) lt op).1 = 0 ↔ _
    unfold toldF
    rw [if_pos word_one]
    simp
  · have hn : ¬ (tokWord s.tok.toNat).toList = [69, 79, 70] := by
      have := List.all_eq_true.1 word_end (s.tok.toNat - 2) (List.mem_range.2 (by omega))
      rw [show s.tok.toNat - 2 + 2 = s.tok.toNat by omega] at this
      intro e
      rw [e] at this
      exact absurd this (by decide)
    unfold toldF
    rw [if_neg hn]
    constructor
    · intro h
      exfalso
      revert h
      repeat' split
      all_goals simp
    · intro h; exact absurd h h0
theorem wrap_small {x : Int} (h0 : 1 ≤ x) (h1 : x ≤ 5000) : wrap64 x = x := by unfold wrap64; omega
theorem row9 {wS w : World} {g cap b0 i : Nat} {L : List St} {s : St} (hrow : wS.ownsRow b0 27 9 (.slice (some ⟨g, 0, none⟩) L.length cap) L.length (flat outCells L)) (hB : Below wS.heap.size wS w) (hs : L[i]? = some s) :
    Row9 w g i (wrap64 s.line) (wrap64 s.col) (wrap64 s.kind) s.prec s.blank s.bad (tokWord s.tok.toNat) s.lit (opStr s.op) := by
  have cell : ∀ j u, j < 9 → (outCells s)[j]? = some u → w.cell? ⟨g, i * 9 + j, none⟩ = some u := fun j u hj hu => by
    have h1 : (flat outCells L)[i * 9 + j]? = some u := (flat_get (k := 9) (fun _ => rfl) L i j s hs hj).trans hu
    have h2 := own_row_cell hrow h1
    rw [World.cell?_of_block (w := wS) (a := ⟨g, i * 9 + j, none⟩) (hB.block _ (World.block_lt_of_cell? _ _ h2))]
    exact h2
  exact ⟨by have := cell 0 _ (by decide) rfl; exact this, cell 1 _ (by decide) rfl, cell 2 _ (by decide) rfl, cell 3 _ (by decide) rfl, cell 4 _ (by decide) rfl, cell 5 _ (by decide) rfl, cell 6 _ (by decide) rfl, cell 7 _ (by decide) rfl, cell 8 _ (by decide) rfl⟩
theorem en_out {w : World} {n : Nat} {v5 vr : Value} (a : Act) (hz : SE v5 vr (.int .i64 n) (.int .i64 n) a) (Q : Exit → Act → World → Prop)
    (hQ : ∀ a', SE v5 vr (.int .i64 n) (.int .i64 n) a' → Q (.exit 0) a' w) : enLoop.wp Tryd.prog Q a w := by
  obtain ⟨x, rfl⟩ := hz.lit
  clear hz
  simp only [enLoop, enBody, bodyOf, Tryd.f3, Option.getD, blkOf, loopOf, cond, Nat.beq]
  have hlt : ¬ ((n : Int) < (n : Int)) := by omega
  go_wp2_with fail
  exact ⟨rfl, rfl, rfl, rfl, rfl, rfl⟩
theorem en_loop (L : List St) {wS : World} {g cap b0 : Nat} (hG : Good 1 1 L) (hL : L.length ≤ 1000000) (hrow : wS.ownsRow b0 27 9 (.slice (some ⟨g, 0, none⟩) L.length cap) L.length (flat outCells L)) (Q : Exit → Act → World → Prop)
    (hQ : ∀ a w, SE (.slice (some ⟨g, 0, none⟩) L.length cap) (.slice (some ⟨g, 0, none⟩) L.length cap) (.int .i64 L.length) (.int .i64 L.length) a → Below wS.heap.size wS w → Q .normal a w) :
    ∀ (d i : Nat) (a : Act) (w : World), i + d = L.length → SE (.slice (some ⟨g, 0, none⟩) L.length cap) (.slice (some ⟨g, 0, none⟩) L.length cap) (.int .i64 L.length) (.int .i64 i) a → Below wS.heap.size wS w →
      Code.rounds Tryd.prog enLoop (Exit.inBlock 0 Q) (d + 1) a w
  | 0, i, a, w, hi, hz, hB => by
    have hi : i = L.length := by omega
    subst hi
    rw [rounds_succ]
    exact en_out a hz _ (fun a' z' => hQ a' w z' hB)
  | d + 1, i, a, w, hi, hz, hB => by
    have hlt : i < L.length := by omega
    obtain ⟨s, hs⟩ : ∃ s, L[i]? = some s := ⟨L[i], List.getElem?_eq_getElem hlt⟩
    obtain ⟨hk, hend, hord⟩ := hG.at i s hs
    have hr := row9 hrow hB hs
    rw [rounds_succ]
    have el := wrap_small hk.l0 hk.l1
    have ec := wrap_small hk.c0 hk.c1
    have hc : ((toldF (tokWord s.tok.toNat) s.lit (opStr s.op)).1 == 0) = decide ((i : Int) = (L.length : Int) - 1) := by
      have h1 := told_end hk.rk s.lit (opStr s.op)
      by_cases h2 : s.tok = 1
      · have e1 := h1.2 h2
        have e2 := hend.1 h2
        rw [e1, decide_eq_true (by omega)]; rfl
      · have e1 : ¬ (toldF (tokWord s.tok.toNat) s.lit (opStr s.op)).1 = 0 := fun h => h2 (h1.1 h)
        have e2 : ¬ i + 1 = L.length := fun h => h2 (hend.2 h)
        rw [decide_eq_false (by omega)]
        simpa using e1
    have hlo : ∃ lp cp, 0 < i → w.cell? ⟨g, (i - 1) * 9, none⟩ = some (.int .i64 lp) ∧ w.cell? ⟨g, (i - 1) * 9 + 1, none⟩ = some (.int .i64 cp) ∧ (lp < wrap64 s.line ∨ (lp = wrap64 s.line ∧ cp ≤ wrap64 s.col)) := by
      by_cases h0 : 0 < i
      · obtain ⟨r, hr2⟩ : ∃ r, L[i - 1]? = some r := ⟨L[i - 1]'(by omega), List.getElem?_eq_getElem (by omega)⟩
        have hk2 := (hG.at (i - 1) r hr2).1
        have hp := row9 hrow hB hr2
        have ho := hord r h0 hr2
        refine ⟨wrap64 r.line, wrap64 r.col, fun _ => ⟨hp.c0, hp.c1, ?_⟩⟩
        rw [el, ec, wrap_small hk2.l0 hk2.l1, wrap_small hk2.c0 hk2.c1]
        exact ho
      · exact ⟨0, 0, fun h => absurd h h0⟩
    obtain ⟨lp, cp, hp⟩ := hlo
    refine en_round hL hlt hr (op_size hk.rk) hc hp a hz _ (fun a' w' z' b' => ?_)
    show Code.rounds Tryd.prog enLoop (Exit.inBlock 0 Q) (d + 1) a' w'
    exact en_loop L hG hL hrow Q hQ d (i + 1) a' w' (by omega) z' (hB.trans (below_weak b' hB.size))

noncomputable abbrev eP (n : Nat) : Code := fstC (cutTail n enBody)
theorem en_body : (Tryd.f3).body = some (.seq (eP 0) (.seq (eP 1) (.seq (eP 2) (.seq (eP 3) (.seq (.seq (fstC (eP 4)) (.block 0 (.loop enLoop))) (cutTail 5 enBody)))))) := by kernel_rfl
theorem en_res {a : Act} {w : World} {v : Value} (h4 : a.tmps[4]? = some v) : (results Tryd.f3 a.tmps).run Tryd.prog w = .ok v w := by
  have e : (Tryd.f3).results = #[.tmp 4] := by kernel_rfl
  simp [results, e, h4, go_sem]
set_option maxHeartbeats 1600000 in
theorem en_first {w : World} {ea : Addr} {src : ByteArray} (hG : Glob w ea) (m : Int) (hm : 0 ≤ m ∧ m ≤ 255) (B C : Code) (Q : Exit → Act → World → Prop)
    (hR : ∀ a w', a.defers = [] → a.tmps[4]? = some (.bool true) → Below w.heap.size w w' → Q .ret a w')
    (hQ : ∀ (L : List St) g cap a w', Good 1 1 L → L.length ≤ 1000000 → w'.ownsRow w.heap.size 27 9 (.slice (some ⟨g, 0, none⟩) L.length cap) L.length (flat outCells L) → Below w.heap.size w w' →
      SE (.slice (some ⟨g, 0, none⟩) L.length cap) (.slice (some ⟨g, 0, none⟩) L.length cap) (.int .i64 L.length) (.int .i64 (0 : Nat)) a → B.wp Tryd.prog (Exit.then (fun a w => C.wp Tryd.prog Q a w) Q) a w') :
    (Code.seq (eP 0) (.seq (eP 1) (.seq (eP 2) (.seq (eP 3) (.seq (.seq (fstC (eP 4)) B) C))))).wp Tryd.prog Q { tmps := #[.string src, .int .u8 m] ++ Array.replicate 82 undef, defers := [] } w := by
  have hm4 : IntKind.u64.wrap (m % 4) = m % 4 := u64_small (by omega) (by omega)
  have hS : ∃ L : List St, (src.size ≤ 2048 → Good 1 1 L ∧ L.length ≤ 1000000) ∧ (src.size ≤ 2048 → Calls Tryd.prog 15 #[.string src, .int .i64 (m % 4)] w fun en w' => ∃ g cap ve, en = .returned (.tuple #[.slice (some ⟨g, 0, none⟩) L.length cap, ve]) ∧
      w'.ownsRow w.heap.size 27 9 (.slice (some ⟨g, 0, none⟩) L.length cap) L.length (flat outCells L) ∧ Below w.heap.size w w') := by
    refine ⟨toks src (m % 4), fun hn => ⟨toks_good _ hn, by have := toks_len src (m % 4) hn; omega⟩, fun hn => ?_⟩
    have := scan_walk hG hn (m % 4)
    rw [hm4] at this
    refine this.mono ?_
    rintro en w' ⟨v, ve, rfl, h1, h2, h3⟩
    obtain ⟨g, cap, rfl, _, _⟩ := h1.form (List.length_pos_iff.2 (toks_good _ hn).ne)
    exact ⟨g, cap, ve, rfl, h1, h3⟩
  obtain ⟨L, hGL, hS⟩ := hS
  simp only [eP, fstC, enBody, bodyOf, Tryd.f3, Option.getD, cutTail, cutN, Option.map, Array.replicate_succ, Array.replicate_zero, List.push_toArray, List.append_toArray, List.nil_append, List.cons_append]
  go_wp2_with (go_at_call 15; refine (hS (by omega)).mono ?_; rintro en w' ⟨g, cap, ve, rfl, h1, h3⟩)
  · exact hR _ _ rfl rfl (Below.refl _ _)
  · exact hR _ _ rfl rfl (Below.refl _ _)
  · rename_i K hK
    obtain ⟨hGd, hl⟩ := hGL (by omega)
    refine Code.wp_mono (fun e a w h => ?_) (hQ L g cap _ _ hGd hl h1 h3 ⟨rfl, rfl, rfl, rfl, rfl, rfl⟩)
    cases e <;> first | exact hK _ _ h | exact h
theorem en_last {w : World} {g cap n : Nat} {vr vn vi : Value} (hn : 0 < n) (a : Act) (hz : SE (.slice (some ⟨g, 0, none⟩) n cap) vr vn vi a) (Q : Exit → Act → World → Prop)
    (hQ : ∀ a', a'.defers = [] → a'.tmps[4]? = some (.bool true) → Q .ret a' w) : (cutTail 5 enBody).wp Tryd.prog Q a w := by
  obtain ⟨x, rfl⟩ := hz.lit
  clear hz
  have hn0 : (0 : Int) < (n : Int) := by omega
  simp only [enBody, bodyOf, Tryd.f3, Option.getD, cutTail, cutN, Option.map]
  go_wp2_with fail
  all_goals first | exact hQ _ rfl (by simp [hn0]) | (simp [hn0]; done) | exact rfl
/-- FnEnds: true. -/
theorem fnEnds_walk {w : World} {ea : Addr} (src : ByteArray) (hG : Glob w ea) (m : Int) (hm : 0 ≤ m ∧ m ≤ 255) :
    Calls Tryd.prog 3 #[.string src, .int .u8 m] w fun en w' => en = .returned (.bool true) ∧ Below w.heap.size w w' := by
  refine calls_of_wp Tryd.func3 en_body ?_
  have hnt : (Tryd.f3).ntmps - (#[.string src, .int .u8 m] : Array Value).size = 82 := by kernel_rfl
  rw [hnt]
  refine en_first hG m hm _ _ _ (fun a w' d0 d4 hB => ⟨d0, _, en_res d4, rfl, hB⟩) (fun L g cap a w' hGd hL hrow hB z => ?_)
  refine wp_block (wp_loop_rounds (L.length + 1) ?_)
  refine en_loop L hGd hL hrow _ (fun a2 w2 z2 b2 => ?_) _ 0 a w' (Nat.zero_add _) z (Below.refl _ _)
  show (cutTail 5 enBody).wp _ _ a2 w2
  exact en_last (List.length_pos_iff.2 hGd.ne) a2 z2 _ (fun a3 d0 d4 => ⟨d0, _, en_res d4, rfl, hB.trans (below_weak b2 hB.size)⟩)
end Sc
end Go.Proofs.YtogkcphobhhbdaaDoor

/- From the listed variables to what the scanner reads of them. -/
namespace Go.Proofs.YtogkcphobhhbdaaDoor
open Go Go.RowKit Go.Lib Go.Shelf
namespace Sc
set_option maxRecDepth 100000

/-- The numbers of this dump, for the library's laws on tables. -/
def tabRen : Go.Shelf.Ren := ⟨fun n => n, fun | 3 => 3 | 49 => 120 | 51 => 44 | 141 => 94 | 196 => 119 | 193 => 116 | 194 => 117 | 198 => 122 | 201 => 125 | 5 => 5 | 119 => 115 | 138 => 152 | 139 => 153 | n => n, fun | 3 => 7 | 4 => 8 | n => n⟩
theorem tabR : RTypes Tryd.prog tabRen := ⟨Tryd.underlying3, Tryd.underlying120, Tryd.underlying44, Tryd.underlying94, Tryd.underlying116, Tryd.underlying117, Tryd.underlying119, Tryd.underlying122, Tryd.underlying125⟩
theorem tabX : RExtra Tryd.prog tabRen := ⟨by kernel_rfl, by kernel_rfl, by kernel_rfl, by kernel_rfl, by kernel_rfl, by kernel_rfl, by kernel_rfl, by kernel_rfl⟩
theorem u8R : U8Types Tryd.prog tabRen := ⟨Tryd.underlying5, Tryd.underlying115, Tryd.underlying152, Tryd.underlying153⟩
theorem u8X : U8Extra Tryd.prog tabRen := ⟨by kernel_rfl, by kernel_rfl, by kernel_rfl, by kernel_rfl, by kernel_rfl, by kernel_rfl, by kernel_rfl⟩
theorem errRow (u : TypeId) (h : Tryd.prog.typeName? 3 u = some "*errors.errorString") : u = 167 :=
  typeName_ptr_named (nm := "errors.errorString") (by rw [show "*" ++ "errors.errorString" = "*errors.errorString" by rfl]; kernel_rfl) (by kernel_rfl) (by decide) u (by rw [show "*" ++ "errors.errorString" = "*errors.errorString" by rfl]; exact h)
theorem tab_cell {W : World} {name : String} {g : Nat} {t e : TypeId} {n : Nat} {zs : List Int} (hg : Tryd.prog.globalNamed name = some g) (hy : (Tryd.prog.globals[g]?).map (·.type) = some t) (ht : Tryd.prog.underlying t = some (.array n e)) (he : Tryd.prog.underlying e = some (.int .u8)) (hce : Tryd.prog.cellsOf e = 1) (hct : Tryd.prog.cellsOf t = n)
    (h : VarReads Tryd.prog W name (tabData .u8 zs)) : TabIs Tryd.prog W name .u8 zs := by
  obtain ⟨g', t', cs, fuel, p, hg', hty, hvar, hd⟩ := h
  obtain rfl := Option.some.inj (hg.symm.trans hg')
  obtain rfl := Option.some.inj (hy.symm.trans hty)
  have hcs := cells_of_tab ht he hce hct hd
  unfold TabIs
  rw [hvar, ← hcs]
def tokTab : List Int := [0, 3, 7, 14, 16, 19, 23, 24, 26, 28, 29, 30, 31, 32, 33, 34, 35, 36, 37, 38, 39, 42, 47, 51, 55, 60, 68, 75, 80, 84, 95, 98, 102, 104, 108, 110, 116, 125, 128, 135, 140, 146, 152, 158, 164, 168, 171, 171]
def opTab : List Int := [0, 1, 2, 4, 5, 7, 9, 11, 13, 14, 16, 17, 19, 20, 21, 22, 23, 24, 25, 26, 27, 29, 31, 33]
theorem glob_of {W : World} (h : laidMet Tryd.prog Rows.fnEndsRow.laid W) : ∃ ea, Glob W ea := by
  have rd : ∀ {n : String} {d : DataW Unit}, (n, d) ∈ Rows.fnEndsRow.laid → VarReads Tryd.prog W n d := fun hm => Lib.laidMet.reads h hm
  have h5 := h.tail.tail.tail.tail
  obtain ⟨ea, s, hv, _, _, _⟩ := laid_sentinel (n := "io.EOF") (nm := "*errors.errorString") (text := [69, 79, 70]) h5 (g := 6) (by kernel_rfl) (by kernel_rfl) Tryd.underlying75 errRow Tryd.underlying167 Tryd.underlying181 rfl rfl Tryd.underlying9 (by kernel_rfl) (by kernel_rfl)
  have mem : ∀ i x, Rows.fnEndsRow.laid[i]? = some x → x ∈ Rows.fnEndsRow.laid := fun i x hx => List.mem_of_getElem? hx
  have r3 := rd (mem 3 ("unicode/utf8.acceptRanges", Rows.laid_unicode_utf8_acceptRanges) rfl)
  have r6 := rd (mem 6 ("unicode.properties", Rows.laid_unicode_properties) rfl)
  have r7 := rd (mem 7 (_, Rows.laid_loop_example_pub_g03120_pub_gosyntax_Operator_index) rfl)
  have r8 := rd (mem 8 (_, Rows.laid_loop_example_pub_g03120_pub_gosyntax_token_index) rfl)
  have r9 := rd (mem 9 ("unicode.Digit", Rows.laid_unicode_Digit) rfl)
  have r10 := rd (mem 10 ("unicode.Letter", Rows.laid_unicode_Letter) rfl)
  have r11 := rd (mem 11 ("unicode/utf8.first", Rows.laid_unicode_utf8_first) rfl)
  have e3 : (Rows.laid_unicode_utf8_acceptRanges : DataW Unit) = acceptData := by kernel_rfl
  have e6 : (Rows.laid_unicode_properties : DataW Unit) = tabData .u8 propertiesTab := by kernel_rfl
  have e7 : (Rows.laid_loop_example_pub_g03120_pub_gosyntax_Operator_index : DataW Unit) = tabData .u8 opTab := by kernel_rfl
  have e8 : (Rows.laid_loop_example_pub_g03120_pub_gosyntax_token_index : DataW Unit) = tabData .u8 tokTab := by kernel_rfl
  rw [e3] at r3
  rw [e6] at r6
  rw [e7] at r7
  rw [e8] at r8
  have r9' : VarReads Tryd.prog W "unicode.Digit" (rtabData digitT) := Pinned.digit_eq ▸ r9
  have r10' : VarReads Tryd.prog W "unicode.Letter" (rtabData letterT) := Pinned.letter_eq ▸ r10
  have r11' : VarReads Tryd.prog W "unicode/utf8.first" firstData := Pinned.utf8First_eq ▸ r11
  have t7 := tab_cell (g := 2) (t := 114) (by kernel_rfl) (by kernel_rfl) Tryd.underlying114 Tryd.underlying5 (by kernel_rfl) (by kernel_rfl) r7
  have t8 := tab_cell (g := 1) (t := 113) (by kernel_rfl) (by kernel_rfl) Tryd.underlying113 Tryd.underlying5 (by kernel_rfl) (by kernel_rfl) r8
  have t6 := tab_cell (g := 4) (t := 115) (by kernel_rfl) (by kernel_rfl) Tryd.underlying115 Tryd.underlying5 (by kernel_rfl) (by kernel_rfl) r6
  have r1 := rd (mem 1 ("math/bits.deBruijn64tab", Rows.laid_math_bits_deBruijn64tab) rfl)
  refine ⟨ea, ?_, ?_, t6, ?_, ?_, ?_, ?_, ?_⟩
  · have := World.var?_cell (show Tryd.prog.globalNamed "io.EOF" = some 6 by kernel_rfl) hv 0
    simpa using this
  · exact utf8Tabs_of_readsT u8R u8X r11' r3
  · exact rvar_of_readsT tabR tabX (name := "unicode.Letter") (g := 5) (by kernel_rfl) (by kernel_rfl) r10'
  · exact rvar_of_readsT tabR tabX (name := "unicode.Digit") (g := 0) (by kernel_rfl) (by kernel_rfl) r9'
  · exact fun i hi => t8.cell (by kernel_rfl) i hi
  · exact fun i hi => t7.cell (by kernel_rfl) i hi
  · obtain ⟨g', t', cs, fuel, p, hg', hty, hvar, hd⟩ := r1
    obtain rfl := Option.some.inj ((show Tryd.prog.globalNamed "math/bits.deBruijn64tab" = some 12 by kernel_rfl).symm.trans hg')
    unfold World.var? at hvar
    rw [hg'] at hvar
    simp only [Option.bind_some] at hvar
    cases hh : W.heap[12]? with
    | none => rw [hh] at hvar; cases hvar
    | some o => exact (Array.getElem?_eq_some_iff.1 hh).1
end Sc
end Go.Proofs.YtogkcphobhhbdaaDoor

/- FnModes: a round of its loop. -/
namespace Go.Proofs.YtogkcphobhhbdaaDoor
open Go Go.RowKit Go.Lib
namespace Sc
open Ev
set_option maxRecDepth 100000

/-- Known slots of a frame of 54. -/
structure SM (va vb vn vi : Value) (a : Act) : Prop where
  defers : a.defers = []
  size : a.tmps.size = 54
  s5 : a.tmps[5]? = some va
  s7 : a.tmps[7]? = some vb
  s40 : a.tmps[40]? = some vn
  s41 : a.tmps[41]? = some vi
theorem SM.lit {va vb vn vi : Value} {a : Act} (h : SM va vb vn vi a) : ∃ x : Nat → Value, a = { tmps := #[x 0, x 1, x 2, x 3, x 4, va, x 6, vb, x 8, x 9, x 10, x 11, x 12, x 13, x 14, x 15, x 16, x 17, x 18, x 19, x 20, x 21, x 22, x 23, x 24, x 25, x 26, x 27, x 28, x 29, x 30, x 31, x 32, x 33, x 34, x 35, x 36, x 37, x 38, x 39, vn, vi, x 42, x 43, x 44, x 45, x 46, x 47, x 48, x 49, x 50, x 51, x 52, x 53], defers := [] } := by
  refine ⟨fun i => a.tmps.getD i undef, ?_⟩
  obtain ⟨t, d⟩ := a
  obtain ⟨h1, h2, k5, k7, k40, k41⟩ := h
  simp only at h1 h2 k5 k7 k40 k41
  subst h1
  have e5 : t.getD 5 undef = va := by rw [Array.getD_eq_getD_getElem?, k5]; rfl
  have e7 : t.getD 7 undef = vb := by rw [Array.getD_eq_getD_getElem?, k7]; rfl
  have e40 : t.getD 40 undef = vn := by rw [Array.getD_eq_getD_getElem?, k40]; rfl
  have e41 : t.getD 41 undef = vi := by rw [Array.getD_eq_getD_getElem?, k41]; rfl
  have ht := tmpsN 54 t h2
  rw [← e5, ← e7, ← e40, ← e41]
  exact congrArg (fun t => ({ tmps := t, defers := [] } : Act)) ht
theorem SM.of {va vb vn vi : Value} (x : Nat → Value) : SM va vb vn vi { tmps := #[x 0, x 1, x 2, x 3, x 4, va, x 6, vb, x 8, x 9, x 10, x 11, x 12, x 13, x 14, x 15, x 16, x 17, x 18, x 19, x 20, x 21, x 22, x 23, x 24, x 25, x 26, x 27, x 28, x 29, x 30, x 31, x 32, x 33, x 34, x 35, x 36, x 37, x 38, x 39, vn, vi, x 42, x 43, x 44, x 45, x 46, x 47, x 48, x 49, x 50, x 51, x 52, x 53], defers := [] } := ⟨rfl, rfl, rfl, rfl, rfl, rfl⟩

noncomputable abbrev moBody : Code := bodyOf Tryd.f4
noncomputable abbrev moLoop : Code := loopOf (blkOf moBody 0)
set_option maxHeartbeats 3200000 in
theorem mo_round {w : World} {g1 c1 g2 c2 n i : Nat} {li co kd pr : Int} {bk bd : Bool} {nm lt op : ByteArray} (hn : n ≤ 1000000) (hi : i < n) (hr1 : Row9 w g1 i li co kd pr bk bd nm lt op) (hr2 : Row9 w g2 i li co kd pr bk bd nm lt op)
    (a : Act) (hz : SM (.slice (some ⟨g1, 0, none⟩) n c1) (.slice (some ⟨g2, 0, none⟩) n c2) (.int .i64 n) (.int .i64 i) a) (Q : Exit → Act → World → Prop)
    (hQ : ∀ a' w', SM (.slice (some ⟨g1, 0, none⟩) n c1) (.slice (some ⟨g2, 0, none⟩) n c2) (.int .i64 n) (.int .i64 (i + 1 : Nat)) a' → Below w.heap.size w w' → Q .normal a' w') : moLoop.wp Tryd.prog Q a w := by
  obtain ⟨x, rfl⟩ := hz.lit
  obtain ⟨c0, c1, c2, c3, c4, c5, c6, c7, c8⟩ := hr1
  obtain ⟨d0, d1, d2, d3, d4, d5, d6, d7, d8⟩ := hr2
  clear hz
  have hi0 : (0 : Int) ≤ (i : Int) := by omega
  have hi1 : (i : Int) < (n : Int) := by omega
  simp only [moLoop, moBody, bodyOf, Tryd.f4, Option.getD, blkOf, loopOf, cond, Nat.beq]
  go_wp2_with fail
  rename_i K hK
  go_quiet (fail)
  simp only [Exit.then]
  refine hK _ _ ?_
  clear hK
  go_wp2_with fail
  exact hQ _ _ ⟨rfl, rfl, rfl, rfl, rfl, rfl⟩ (below_drewN _ _ _)
theorem mo_out {w : World} {n : Nat} {va vb : Value} (a : Act) (hz : SM va vb (.int .i64 n) (.int .i64 n) a) (Q : Exit → Act → World → Prop)
    (hQ : ∀ a', a'.defers = [] ∧ a'.tmps.size = 54 → Q (.exit 0) a' w) : moLoop.wp Tryd.prog Q a w := by
  obtain ⟨x, rfl⟩ := hz.lit
  clear hz
  simp only [moLoop, moBody, bodyOf, Tryd.f4, Option.getD, blkOf, loopOf, cond, Nat.beq]
  have hlt : ¬ ((n : Int) < (n : Int)) := by omega
  go_wp2_with fail
  all_goals exact ⟨rfl, rfl⟩
theorem outCells_sim {a b : St} (h : SimB a b) : outCells b = outCells a := by
  obtain ⟨m, ns, bb, rfl⟩ := h; rfl
theorem mo_loop (L K : List St) {wS : World} {g1 c1 g2 c2 b1 b2 : Nat} (hS : AllSim L K) (hL : L.length ≤ 1000000) (hr1 : wS.ownsRow b1 27 9 (.slice (some ⟨g1, 0, none⟩) L.length c1) L.length (flat outCells L)) (hr2 : wS.ownsRow b2 27 9 (.slice (some ⟨g2, 0, none⟩) L.length c2) L.length (flat outCells K)) (Q : Exit → Act → World → Prop)
    (hQ : ∀ a w, a.defers = [] ∧ a.tmps.size = 54 → Below wS.heap.size wS w → Q .normal a w) :
    ∀ (d i : Nat) (a : Act) (w : World), i + d = L.length → SM (.slice (some ⟨g1, 0, none⟩) L.length c1) (.slice (some ⟨g2, 0, none⟩) L.length c2) (.int .i64 L.length) (.int .i64 i) a → Below wS.heap.size wS w →
      Code.rounds Tryd.prog moLoop (Exit.inBlock 0 Q) (d + 1) a w
  | 0, i, a, w, hi, hz, hB => by
    have hi : i = L.length := by omega
    subst hi
    rw [rounds_succ]
    exact mo_out a hz _ (fun a' d0 => hQ a' w d0 hB)
  | d + 1, i, a, w, hi, hz, hB => by
    have hlt : i < L.length := by omega
    have hK : K.length = L.length := hS.length
    obtain ⟨s, hs⟩ : ∃ s, L[i]? = some s := ⟨L[i], List.getElem?_eq_getElem hlt⟩
    obtain ⟨s2, hs2⟩ : ∃ s, K[i]? = some s := ⟨K[i]'(by omega), List.getElem?_eq_getElem (by omega)⟩
    have hsim := hS.at i s s2 hs hs2
    have r1 := row9 hr1 hB hs
    rw [← hK] at hr2
    have r2 := row9 hr2 hB hs2
    rw [hK] at hr2
    obtain ⟨m, ns, bb, rfl⟩ := hsim
    rw [rounds_succ]
    refine mo_round hL hlt r1 r2 a hz _ (fun a' w' z' b' => ?_)
    show Code.rounds Tryd.prog moLoop (Exit.inBlock 0 Q) (d + 1) a' w'
    exact mo_loop L K hS hL hr1 hr2 Q hQ d (i + 1) a' w' (by omega) z' (hB.trans (below_weak b' hB.size))
noncomputable abbrev mP (n : Nat) : Code := fstC (cutTail n moBody)
end Sc
end Go.Proofs.YtogkcphobhhbdaaDoor

/- FnModes walked: true at every text. -/
namespace Go.Proofs.YtogkcphobhhbdaaDoor
open Go Go.RowKit Go.Lib
namespace Sc
open Ev
set_option maxRecDepth 100000

theorem glob_move {w w' : World} {ea : Addr} (h : Glob w ea) (hB : Below w.heap.size w w') : Glob w' ea := by
  have mv : ∀ {a : Addr} {v : Value}, w.cell? a = some v → w'.cell? a = some v := fun {a v} hc => by
    rw [World.cell?_of_block (w := w) (a := a) (hB.block _ (World.block_lt_of_cell? _ _ hc))]; exact hc
  have := hB.size; have := h.size
  exact ⟨mv h.eof, ⟨fun c hc => mv (h.utf8.1 c hc), fun i hi => ⟨mv (h.utf8.2 i hi).1, mv (h.utf8.2 i hi).2⟩⟩, Go.Proofs.TabIs_below (by kernel_rfl : Tryd.prog.globalNamed "unicode.properties" = some 4) h.props hB, Go.Proofs.RVar_below h.letter hB, Go.Proofs.RVar_below h.digit hB, fun i hi => mv (h.tix i hi), fun i hi => mv (h.oix i hi), by omega⟩
/-- impl.Scan at a small mode, its tokens a row. -/
theorem scan_row {w : World} {ea : Addr} {src : ByteArray} (hG : Glob w ea) (hn : src.size ≤ 2048) (m : Int) (hm : 0 ≤ m ∧ m ≤ 255) :
    Calls Tryd.prog 15 #[.string src, .int .i64 m] w fun en w' => ∃ g cap ve, en = .returned (.tuple #[.slice (some ⟨g, 0, none⟩) (toks src m).length cap, ve]) ∧
      w'.ownsRow w.heap.size 27 9 (.slice (some ⟨g, 0, none⟩) (toks src m).length cap) (toks src m).length (flat outCells (toks src m)) ∧ Below w.heap.size w w' := by
  have := scan_walk hG hn m
  rw [show IntKind.u64.wrap m = m from u64_small (by omega) (by omega)] at this
  refine this.mono ?_
  rintro en w' ⟨v, ve, rfl, h1, h2, h3⟩
  obtain ⟨g, cap, rfl, _, _⟩ := h1.form (List.length_pos_iff.2 (toks_good _ hn).ne)
  exact ⟨g, cap, ve, rfl, h1, h3⟩
theorem mo_body : (Tryd.f4).body = some (.seq (mP 0) (.seq (mP 1) (.seq (mP 2) (.seq (mP 3) (.seq (mP 4) (.seq (mP 5) (.seq (.seq (fstC (mP 6)) (.block 0 (.loop moLoop))) (cutTail 7 moBody)))))))) := by kernel_rfl
theorem mo_res {a : Act} {w : World} {v : Value} (h4 : a.tmps[4]? = some v) : (results Tryd.f4 a.tmps).run Tryd.prog w = .ok v w := by
  have e : (Tryd.f4).results = #[.tmp 4] := by kernel_rfl
  simp [results, e, h4, go_sem]
set_option maxHeartbeats 1600000 in
theorem mo_first {w : World} {src : ByteArray} (m : Int) (hm : 0 ≤ m ∧ m ≤ 255) (L K : List St) (hK : src.size ≤ 2048 → ((L.length : Int) == 0) = false)
    (hS1 : src.size ≤ 2048 → Calls Tryd.prog 15 #[.string src, .int .i64 0] w fun en w' => ∃ g cap ve, en = .returned (.tuple #[.slice (some ⟨g, 0, none⟩) L.length cap, ve]) ∧ w'.ownsRow w.heap.size 27 9 (.slice (some ⟨g, 0, none⟩) L.length cap) L.length (flat outCells L) ∧ Below w.heap.size w w')
    (hS2 : ∀ w1, Below w.heap.size w w1 → src.size ≤ 2048 → Calls Tryd.prog 15 #[.string src, .int .i64 (m % 4)] w1 fun en w' => ∃ g cap ve, en = .returned (.tuple #[.slice (some ⟨g, 0, none⟩) L.length cap, ve]) ∧ w'.ownsRow w1.heap.size 27 9 (.slice (some ⟨g, 0, none⟩) L.length cap) L.length (flat outCells K) ∧ Below w1.heap.size w1 w')
    (B C : Code) (Q : Exit → Act → World → Prop)
    (hR : ∀ a w', a.defers = [] → a.tmps[4]? = some (.bool true) → Below w.heap.size w w' → Q .ret a w')
    (hQ : ∀ g1 c1 g2 c2 b1 b2 a w', w'.ownsRow b1 27 9 (.slice (some ⟨g1, 0, none⟩) L.length c1) L.length (flat outCells L) → w'.ownsRow b2 27 9 (.slice (some ⟨g2, 0, none⟩) L.length c2) L.length (flat outCells K) → Below w.heap.size w w' → src.size ≤ 2048 →
      SM (.slice (some ⟨g1, 0, none⟩) L.length c1) (.slice (some ⟨g2, 0, none⟩) L.length c2) (.int .i64 L.length) (.int .i64 (0 : Nat)) a → B.wp Tryd.prog (Exit.then (fun a w => C.wp Tryd.prog Q a w) Q) a w') :
    (Code.seq (mP 0) (.seq (mP 1) (.seq (mP 2) (.seq (mP 3) (.seq (mP 4) (.seq (mP 5) (.seq (.seq (fstC (mP 6)) B) C))))))).wp Tryd.prog Q { tmps := #[.string src, .int .u8 m] ++ Array.replicate 52 undef, defers := [] } w := by
  simp only [mP, fstC, moBody, bodyOf, Tryd.f4, Option.getD, cutTail, cutN, Option.map, Array.replicate_succ, Array.replicate_zero, List.push_toArray, List.append_toArray, List.nil_append, List.cons_append]
  go_wp2_with (go_at_call 15; (first
    | (have hB1' := hB1; refine (hS2 _ hB1 (by omega)).mono ?_; rintro en w2 ⟨g2, c2, v2, rfl, h2, hB2⟩)
    | (refine (hS1 (by omega)).mono ?_; rintro en w1 ⟨g1, c1, v1, rfl, h1, hB1⟩; have hl0 := hK (by omega))))
  · exact hR _ _ rfl rfl (Below.refl _ _)
  · exact hR _ _ rfl rfl (Below.refl _ _)
  · rename_i KK hK'
    refine Code.wp_mono (fun e a w h => ?_) (hQ g1 c1 g2 c2 _ _ _ _ (own_below hB2 h1) h2 (hB1.trans (below_weak hB2 hB1.size)) (by omega) ⟨rfl, rfl, rfl, rfl, rfl, rfl⟩)
    cases e <;> first | exact hK' _ _ h | exact h
theorem mo_last {w : World} (a : Act) (hz : a.defers = [] ∧ a.tmps.size = 54) (Q : Exit → Act → World → Prop)
    (hQ : ∀ a', a'.defers = [] → a'.tmps[4]? = some (.bool true) → Q .ret a' w) : (cutTail 7 moBody).wp Tryd.prog Q a w := by
  obtain ⟨t, d⟩ := a
  obtain ⟨h1, h2⟩ := hz
  simp only at h1 h2
  subst h1
  have ht := tmpsN 54 t h2
  generalize (fun i => t.getD i undef) = x at ht
  subst ht
  simp only [moBody, bodyOf, Tryd.f4, Option.getD, cutTail, cutN, Option.map, List.range, List.range.loop, List.map]
  go_wp2_with fail
  all_goals first | exact hQ _ rfl rfl | exact rfl
/-- FnModes: true. -/
theorem fnModes_walk {w : World} {ea : Addr} (src : ByteArray) (hG : Glob w ea) (m : Int) (hm : 0 ≤ m ∧ m ≤ 255) :
    Calls Tryd.prog 4 #[.string src, .int .u8 m] w fun en w' => en = .returned (.bool true) ∧ Below w.heap.size w w' := by
  refine calls_of_wp Tryd.func4 mo_body ?_
  have hnt : (Tryd.f4).ntmps - (#[.string src, .int .u8 m] : Array Value).size = 52 := by kernel_rfl
  rw [hnt]
  have hS := toks_sim src 0 (m % 4)
  have hlen := hS.length
  have row2 : ∀ w1, Below w.heap.size w w1 → src.size ≤ 2048 → Calls Tryd.prog 15 #[.string src, .int .i64 (m % 4)] w1 fun en w' => ∃ g cap ve, en = .returned (.tuple #[.slice (some ⟨g, 0, none⟩) (toks src 0).length cap, ve]) ∧ w'.ownsRow w1.heap.size 27 9 (.slice (some ⟨g, 0, none⟩) (toks src 0).length cap) (toks src 0).length (flat outCells (toks src (m % 4))) ∧ Below w1.heap.size w1 w' := fun w1 hB hn => by
    have := scan_row (glob_move hG hB) hn (m % 4) (by omega)
    rw [hlen] at this
    exact this
  refine mo_first m hm (toks src 0) (toks src (m % 4)) (fun hn => ?_) (fun hn => scan_row hG hn 0 (by omega)) row2 _ _ _ (fun a w' d0 d4 hB => ⟨d0, _, mo_res d4, rfl, hB⟩) (fun g1 c1 g2 c2 b1 b2 a w' r1 r2 hB hn z => ?_)
  · have := (toks_good 0 hn).ne
    simp [this]
  refine wp_block (wp_loop_rounds ((toks src 0).length + 1) ?_)
  have hl := toks_len src 0 hn
  refine mo_loop (toks src 0) (toks src (m % 4)) hS (by omega) r1 r2 _ (fun a2 w2 d2 b2' => ?_) _ 0 a w' (Nat.zero_add _) z (Below.refl _ _)
  show (cutTail 7 moBody).wp _ _ a2 w2
  exact mo_last a2 d2 _ (fun a3 d0 d4 => ⟨d0, _, mo_res d4, rfl, hB.trans (below_weak b2' hB.size)⟩)
end Sc
end Go.Proofs.YtogkcphobhhbdaaDoor
