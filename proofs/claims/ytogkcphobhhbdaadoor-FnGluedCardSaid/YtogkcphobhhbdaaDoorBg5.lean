/- The scanner of the program told as plain functions, part 5: texts joined by a program (wip/tools/shake.py), without what this claim does not reach. -/
import Derived.Test.YtogkcphobhhbdaaDoorBg4
import Derived.Test.YtogkcphobhhbdaaDoorRows
import Derived.PinnedBridge
import Derived.Lib.LaidRTabT
import Derived.Lib.LaidU8T
import Derived.Stop.LaidErr
import Derived.Lay
import Derived.LaidMore
import Derived.ProofKit
import Derived.OpenShut
import Derived.OpenVars
import Derived.SevenTiedAt
import Derived.Stop.Joined
set_option linter.unusedVariables false
set_option linter.unusedSimpArgs false
/- Plain: the switch at each sign (printed by wip/tools/genSg.py). -/
namespace Go.Proofs.YtogkcphobhhbdaaDoor
open Go Go.RowKit Go.Lib
namespace Sc
open Ev
set_option maxRecDepth 100000
def sgL : List ByteArray := [⟨#[60, 60, 61]⟩, ⟨#[62, 62, 61]⟩, ⟨#[38, 94, 61]⟩, ⟨#[46, 46, 46]⟩, ⟨#[60, 60]⟩, ⟨#[62, 62]⟩, ⟨#[38, 94]⟩, ⟨#[43, 61]⟩, ⟨#[45, 61]⟩, ⟨#[42, 61]⟩, ⟨#[47, 61]⟩, ⟨#[37, 61]⟩, ⟨#[38, 61]⟩, ⟨#[124, 61]⟩, ⟨#[94, 61]⟩, ⟨#[38, 38]⟩, ⟨#[124, 124]⟩, ⟨#[60, 45]⟩, ⟨#[43, 43]⟩, ⟨#[45, 45]⟩, ⟨#[61, 61]⟩, ⟨#[33, 61]⟩, ⟨#[60, 61]⟩, ⟨#[62, 61]⟩, ⟨#[58, 61]⟩, ⟨#[43]⟩, ⟨#[45]⟩, ⟨#[42]⟩, ⟨#[47]⟩, ⟨#[37]⟩, ⟨#[38]⟩, ⟨#[124]⟩, ⟨#[94]⟩, ⟨#[60]⟩, ⟨#[62]⟩, ⟨#[61]⟩, ⟨#[33]⟩, ⟨#[126]⟩, ⟨#[40]⟩, ⟨#[41]⟩, ⟨#[91]⟩, ⟨#[93]⟩, ⟨#[123]⟩, ⟨#[125]⟩, ⟨#[44]⟩, ⟨#[46]⟩, ⟨#[58]⟩]
def inSg (w : ByteArray) : Bool := sgL.any fun x => x.toList == w.toList
/-- No longer sign stands there. -/
def SgMax (src : ByteArray) (q : Nat) (w : ByteArray) : Prop := ∀ w', inSg w' = true → Sub src q w' → w'.size ≤ w.size
/-- What a pass at a sign comes to. -/
structure SgR (src : ByteArray) (n : St) (q2 : Nat) (w : ByteArray) (s : St) : Prop where
  std : Std src q2 s
  notes : s.notes = n.notes
  mode : s.mode = n.mode
  told : toldF (tokWord s.tok.toNat) s.lit (opStr s.op) = (3, w)
  ne : s.tok ≠ 1
  nl : (endsLineF w = false ∧ s.nlsemi = n.nlsemi) ∨ (endsLineF w = true ∧ s.nlsemi = true)
  lc : s.line = n.line ∧ s.col = n.col
theorem sgR_of {src : ByteArray} {n x s : St} {q2 : Nat} {w : ByteArray} (hx : Std src q2 x) (hs : Sil src n x) (e1 : s.fresh = x.fresh) (e2 : s.p = x.p) (e3 : s.chw = x.chw) (e4 : s.ch = x.ch) (en : s.notes = x.notes) (em : s.mode = x.mode) (el : s.line = x.line) (ec : s.col = x.col)
    (ht : toldF (tokWord s.tok.toNat) s.lit (opStr s.op) = (3, w)) (ne : s.tok ≠ 1) (nl : (endsLineF w = false ∧ s.nlsemi = x.nlsemi) ∨ (endsLineF w = true ∧ s.nlsemi = true)) : SgR src n q2 w s := by
  have k := hs.keep
  refine ⟨hx.same e1 e2 e3 e4, en.trans hs.notes, by rw [em, k], ht, ne, ?_, by rw [el, k], by rw [ec, k]⟩
  rcases nl with ⟨h1, h2⟩ | h
  · exact .inl ⟨h1, by rw [h2, k]⟩
  · exact .inr h
theorem sub_byte {src : ByteArray} {q : Nat} {w : ByteArray} (h : Sub src q w) (i : Nat) (hi : i < w.size) (h1 : (w.get! i).toNat < 128) (h2 : (w.get! i).toNat ≠ 0) : ChAt src (q + i) (w.get! i).toNat 1 := by
  have e := h.get i hi
  have hl := h.le
  have := chAt_byte (src := src) (p := q + i) (by omega) (by rw [e]; exact h1) (by rw [e]; exact h2)
  rw [e] at this
  exact this
theorem std_on {src : ByteArray} {q : Nat} {n : St} (h : Std src q n) {r : Int} (hc : ChAt src q r 1) (hq : Cln src (q + 1)) : n.ch = r ∧ Std src (q + 1) (nextch src n) ∧ Sil src n (nextch src n) := by
  obtain ⟨e1, e2⟩ := h.of hc
  have h1 := std_next h (by rw [e2]; exact hq)
  have h2 := sil_next h (by rw [e2]; exact hq)
  rw [e2] at h1
  exact ⟨e1, h1.1, h2⟩
theorem step1 {src : ByteArray} {q : Nat} {n : St} {a : UInt8} (h : Std src q n) (hS : Sub src q ⟨#[a]⟩) (ha : 0 < a.toNat ∧ a.toNat < 128) (hq : Cln src (q + 1)) : n.ch = a.toNat ∧ Std src (q + 1) (nextch src n) ∧ Sil src n (nextch src n) :=
  std_on h (sub_byte hS 0 (by show 0 < 1; decide) ha.2 (Nat.ne_of_gt ha.1)) hq
theorem step2 {src : ByteArray} {q : Nat} {n : St} {a b : UInt8} (h : Std src q n) (hS : Sub src q ⟨#[a, b]⟩) (ha : 0 < a.toNat ∧ a.toNat < 128) (hb : 0 < b.toNat ∧ b.toNat < 128) (hq : Cln src (q + 2)) :
    n.ch = a.toNat ∧ (nextch src n).ch = b.toNat ∧ Std src (q + 2) (nextch src (nextch src n)) ∧ Sil src n (nextch src (nextch src n)) := by
  have c1 : ChAt src (q + 1) b.toNat 1 := sub_byte hS 1 (by show 1 < 2; decide) hb.2 (Nat.ne_of_gt hb.1)
  obtain ⟨e0, h1, s1⟩ := std_on h (sub_byte hS 0 (by show 0 < 2; decide) ha.2 (Nat.ne_of_gt ha.1)) (.inl ⟨_, _, c1⟩)
  obtain ⟨e1, h2, s2⟩ := std_on h1 c1 hq
  exact ⟨e0, e1, h2, s1.trans s2⟩
theorem step3 {src : ByteArray} {q : Nat} {n : St} {a b c : UInt8} (h : Std src q n) (hS : Sub src q ⟨#[a, b, c]⟩) (ha : 0 < a.toNat ∧ a.toNat < 128) (hb : 0 < b.toNat ∧ b.toNat < 128) (hc : 0 < c.toNat ∧ c.toNat < 128) (hq : Cln src (q + 3)) :
    n.ch = a.toNat ∧ (nextch src n).ch = b.toNat ∧ (nextch src (nextch src n)).ch = c.toNat ∧ Std src (q + 3) (nextch src (nextch src (nextch src n))) ∧ Sil src n (nextch src (nextch src (nextch src n))) := by
  have c1 : ChAt src (q + 1) b.toNat 1 := sub_byte hS 1 (by show 1 < 3; decide) hb.2 (Nat.ne_of_gt hb.1)
  have c2 : ChAt src (q + 2) c.toNat 1 := sub_byte hS 2 (by show 2 < 3; decide) hc.2 (Nat.ne_of_gt hc.1)
  obtain ⟨e0, h1, s1⟩ := std_on h (sub_byte hS 0 (by show 0 < 3; decide) ha.2 (Nat.ne_of_gt ha.1)) (.inl ⟨_, _, c1⟩)
  obtain ⟨e1, h2, s2⟩ := std_on h1 c1 (.inl ⟨_, _, c2⟩)
  obtain ⟨e2, h3, s3⟩ := std_on h2 c2 hq
  exact ⟨e0, e1, e2, h3, (s1.trans s2).trans s3⟩
/-- A byte more would be a longer sign. -/
theorem noext {src : ByteArray} {q : Nat} {w : ByteArray} {x : St} (hS : Sub src q w) (hx : Std src (q + w.size) x) (c : UInt8) (h0 : 0 < c.toNat ∧ c.toNat < 128) (hno : ¬ Sub src q (w ++ ⟨#[c]⟩)) : x.ch ≠ c.toNat := by
  intro e
  refine hno ⟨?_, fun j hj => ?_⟩
  · have := (hx.at (by omega)).lt
    rw [app_size]
    show q + (w.size + 1) ≤ _
    omega
  · have hj : j < w.size + 1 := by have := app_size w ⟨#[c]⟩; have hs1 : (⟨#[c]⟩ : ByteArray).size = 1 := rfl; omega
    by_cases h : j < w.size
    · rw [get_left _ _ _ h]; exact hS.get j h
    · have : j = w.size := by omega
      subst this
      have e2 := ((hx.at (by omega)).byte (by omega)).1
      have e3 := get_right w ⟨#[c]⟩ 0
      rw [Nat.add_zero] at e3
      rw [e3]
      show _ = c
      refine UInt8.toNat_inj.1 ?_
      omega
theorem SgMax.no {src : ByteArray} {q : Nat} {w : ByteArray} (h : SgMax src q w) (c : UInt8) (hin : inSg (w ++ ⟨#[c]⟩) = true) : ¬ Sub src q (w ++ ⟨#[c]⟩) := fun hs => by
  have := h _ hin hs
  rw [app_size] at this
  have hs1 : (⟨#[c]⟩ : ByteArray).size = 1 := rfl
  omega
/-- What a sign asks for: none that is longer, no remark, no digit behind a point. -/
structure SgAt (src : ByteArray) (q : Nat) (w : ByteArray) : Prop where
  sub : Sub src q w
  max : SgMax src q w
  cl : Cln src (q + w.size)
  r1 : ¬ Sub src q ⟨#[47, 47]⟩
  r2 : ¬ Sub src q ⟨#[47, 42]⟩
  dig : w.toList = [46] → ∀ x, Std src (q + 1) x → isDecimalF x.ch = false
  dots : w.toList = [46] → ChAt src (q + 1) 46 1 → Cln src (q + 2)
def SgTo (src : ByteArray) (nl : Bool) (n : St) (q2 : Nat) (w : ByteArray) : Prop := ∃ s, finG src nl ((swT src nl n).get fin0) = (s, []) ∧ SgR src n q2 w s
theorem nextch_opr (src : ByteArray) (o p : Int) (st : St) : nextch src (opr o p st) = opr o p (nextch src st) := rfl
theorem nextch_op (src : ByteArray) (o : Int) (st : St) : nextch src { st with op := o } = { nextch src st with op := o } := rfl
theorem opr_ch (o p : Int) (st : St) : (opr o p st).ch = st.ch := rfl
theorem op_ch (o : Int) (st : St) : ({ st with op := o } : St).ch = st.ch := rfl
theorem sg_0 {src : ByteArray} {q : Nat} {n : St} {nl : Bool} (h : Std src q n) (hS : SgAt src q ⟨#[60, 60, 61]⟩) : SgTo src nl n (q + 3) ⟨#[60, 60, 61]⟩ := by
  obtain ⟨e0, e1, e2, hx, hs⟩ := step3 h hS.sub (by decide) (by decide) (by decide) hS.cl
  have e0 : n.ch = 60 := e0
  have e1 : (nextch src n).ch = 60 := e1
  have e2 : (nextch src (nextch src n)).ch = 61 := e2
  exact ⟨tk 5 (nextch src (opr 22 5 (nextch src (nextch src n)))), by simp [swT, Tree.get, swNum, sw1, sw4, swA, finG, asgF, nextch_opr, nextch_op, opr_ch, op_ch, show isDecimalF 46 = false by decide, e0, e1, e2], sgR_of hx hs rfl rfl rfl rfl rfl rfl rfl rfl (by kernel_rfl) (by show (5 : Int) ≠ 1; decide) (.inl ⟨by kernel_rfl, rfl⟩)⟩
theorem sg_1 {src : ByteArray} {q : Nat} {n : St} {nl : Bool} (h : Std src q n) (hS : SgAt src q ⟨#[62, 62, 61]⟩) : SgTo src nl n (q + 3) ⟨#[62, 62, 61]⟩ := by
  obtain ⟨e0, e1, e2, hx, hs⟩ := step3 h hS.sub (by decide) (by decide) (by decide) hS.cl
  have e0 : n.ch = 62 := e0
  have e1 : (nextch src n).ch = 62 := e1
  have e2 : (nextch src (nextch src n)).ch = 61 := e2
  exact ⟨tk 5 (nextch src (opr 23 5 (nextch src (nextch src n)))), by simp [swT, Tree.get, swNum, sw1, sw4, swA, finG, asgF, nextch_opr, nextch_op, opr_ch, op_ch, show isDecimalF 46 = false by decide, e0, e1, e2], sgR_of hx hs rfl rfl rfl rfl rfl rfl rfl rfl (by kernel_rfl) (by show (5 : Int) ≠ 1; decide) (.inl ⟨by kernel_rfl, rfl⟩)⟩
theorem sg_2 {src : ByteArray} {q : Nat} {n : St} {nl : Bool} (h : Std src q n) (hS : SgAt src q ⟨#[38, 94, 61]⟩) : SgTo src nl n (q + 3) ⟨#[38, 94, 61]⟩ := by
  obtain ⟨e0, e1, e2, hx, hs⟩ := step3 h hS.sub (by decide) (by decide) (by decide) hS.cl
  have e0 : n.ch = 38 := e0
  have e1 : (nextch src n).ch = 94 := e1
  have e2 : (nextch src (nextch src n)).ch = 61 := e2
  exact ⟨tk 5 (nextch src { nextch src (opr 20 5 (nextch src n)) with op := 21 }), by simp [swT, Tree.get, swNum, sw1, sw4, swA, finG, asgF, nextch_opr, nextch_op, opr_ch, op_ch, show isDecimalF 46 = false by decide, e0, e1, e2], sgR_of hx hs rfl rfl rfl rfl rfl rfl rfl rfl (by kernel_rfl) (by show (5 : Int) ≠ 1; decide) (.inl ⟨by kernel_rfl, rfl⟩)⟩
theorem sg_3 {src : ByteArray} {q : Nat} {n : St} {nl : Bool} (h : Std src q n) (hS : SgAt src q ⟨#[46, 46, 46]⟩) : SgTo src nl n (q + 3) ⟨#[46, 46, 46]⟩ := by
  obtain ⟨e0, e1, e2, hx, hs⟩ := step3 h hS.sub (by decide) (by decide) (by decide) hS.cl
  have e0 : n.ch = 46 := e0
  have e1 : (nextch src n).ch = 46 := e1
  have e2 : (nextch src (nextch src n)).ch = 46 := e2
  exact ⟨tk 21 (nextch src (nextch src (nextch src n))), by simp [swT, Tree.get, swNum, sw1, sw4, swA, finG, asgF, nextch_opr, nextch_op, opr_ch, op_ch, show isDecimalF 46 = false by decide, e0, e1, e2], sgR_of hx hs rfl rfl rfl rfl rfl rfl rfl rfl (by kernel_rfl) (by show (21 : Int) ≠ 1; decide) (.inl ⟨by kernel_rfl, rfl⟩)⟩
theorem sg_4 {src : ByteArray} {q : Nat} {n : St} {nl : Bool} (h : Std src q n) (hS : SgAt src q ⟨#[60, 60]⟩) : SgTo src nl n (q + 2) ⟨#[60, 60]⟩ := by
  obtain ⟨e0, e1, hx, hs⟩ := step2 h hS.sub (by decide) (by decide) hS.cl
  have e0 : n.ch = 60 := e0
  have e1 : (nextch src n).ch = 60 := e1
  have k0 : (nextch src (nextch src n)).ch ≠ 61 := noext hS.sub hx 61 (by decide) (hS.max.no 61 (by kernel_rfl))
  exact ⟨tk 4 (opr 22 5 (nextch src (nextch src n))), by simp [swT, Tree.get, swNum, sw1, sw4, swA, finG, asgF, nextch_opr, nextch_op, opr_ch, op_ch, show isDecimalF 46 = false by decide, e0, e1, k0], sgR_of hx hs rfl rfl rfl rfl rfl rfl rfl rfl (by kernel_rfl) (by show (4 : Int) ≠ 1; decide) (.inl ⟨by kernel_rfl, rfl⟩)⟩
theorem sg_5 {src : ByteArray} {q : Nat} {n : St} {nl : Bool} (h : Std src q n) (hS : SgAt src q ⟨#[62, 62]⟩) : SgTo src nl n (q + 2) ⟨#[62, 62]⟩ := by
  obtain ⟨e0, e1, hx, hs⟩ := step2 h hS.sub (by decide) (by decide) hS.cl
  have e0 : n.ch = 62 := e0
  have e1 : (nextch src n).ch = 62 := e1
  have k0 : (nextch src (nextch src n)).ch ≠ 61 := noext hS.sub hx 61 (by decide) (hS.max.no 61 (by kernel_rfl))
  exact ⟨tk 4 (opr 23 5 (nextch src (nextch src n))), by simp [swT, Tree.get, swNum, sw1, sw4, swA, finG, asgF, nextch_opr, nextch_op, opr_ch, op_ch, show isDecimalF 46 = false by decide, e0, e1, k0], sgR_of hx hs rfl rfl rfl rfl rfl rfl rfl rfl (by kernel_rfl) (by show (4 : Int) ≠ 1; decide) (.inl ⟨by kernel_rfl, rfl⟩)⟩
theorem sg_6 {src : ByteArray} {q : Nat} {n : St} {nl : Bool} (h : Std src q n) (hS : SgAt src q ⟨#[38, 94]⟩) : SgTo src nl n (q + 2) ⟨#[38, 94]⟩ := by
  obtain ⟨e0, e1, hx, hs⟩ := step2 h hS.sub (by decide) (by decide) hS.cl
  have e0 : n.ch = 38 := e0
  have e1 : (nextch src n).ch = 94 := e1
  have k0 : (nextch src (nextch src n)).ch ≠ 61 := noext hS.sub hx 61 (by decide) (hS.max.no 61 (by kernel_rfl))
  exact ⟨tk 4 { nextch src (opr 20 5 (nextch src n)) with op := 21 }, by simp [swT, Tree.get, swNum, sw1, sw4, swA, finG, asgF, nextch_opr, nextch_op, opr_ch, op_ch, show isDecimalF 46 = false by decide, e0, e1, k0], sgR_of hx hs rfl rfl rfl rfl rfl rfl rfl rfl (by kernel_rfl) (by show (4 : Int) ≠ 1; decide) (.inl ⟨by kernel_rfl, rfl⟩)⟩
theorem sg_7 {src : ByteArray} {q : Nat} {n : St} {nl : Bool} (h : Std src q n) (hS : SgAt src q ⟨#[43, 61]⟩) : SgTo src nl n (q + 2) ⟨#[43, 61]⟩ := by
  obtain ⟨e0, e1, hx, hs⟩ := step2 h hS.sub (by decide) (by decide) hS.cl
  have e0 : n.ch = 43 := e0
  have e1 : (nextch src n).ch = 61 := e1
  exact ⟨tk 5 (nextch src (opr 13 4 (nextch src n))), by simp [swT, Tree.get, swNum, sw1, sw4, swA, finG, asgF, nextch_opr, nextch_op, opr_ch, op_ch, show isDecimalF 46 = false by decide, e0, e1], sgR_of hx hs rfl rfl rfl rfl rfl rfl rfl rfl (by kernel_rfl) (by show (5 : Int) ≠ 1; decide) (.inl ⟨by kernel_rfl, rfl⟩)⟩
theorem sg_8 {src : ByteArray} {q : Nat} {n : St} {nl : Bool} (h : Std src q n) (hS : SgAt src q ⟨#[45, 61]⟩) : SgTo src nl n (q + 2) ⟨#[45, 61]⟩ := by
  obtain ⟨e0, e1, hx, hs⟩ := step2 h hS.sub (by decide) (by decide) hS.cl
  have e0 : n.ch = 45 := e0
  have e1 : (nextch src n).ch = 61 := e1
  exact ⟨tk 5 (nextch src (opr 14 4 (nextch src n))), by simp [swT, Tree.get, swNum, sw1, sw4, swA, finG, asgF, nextch_opr, nextch_op, opr_ch, op_ch, show isDecimalF 46 = false by decide, e0, e1], sgR_of hx hs rfl rfl rfl rfl rfl rfl rfl rfl (by kernel_rfl) (by show (5 : Int) ≠ 1; decide) (.inl ⟨by kernel_rfl, rfl⟩)⟩
theorem sg_9 {src : ByteArray} {q : Nat} {n : St} {nl : Bool} (h : Std src q n) (hS : SgAt src q ⟨#[42, 61]⟩) : SgTo src nl n (q + 2) ⟨#[42, 61]⟩ := by
  obtain ⟨e0, e1, hx, hs⟩ := step2 h hS.sub (by decide) (by decide) hS.cl
  have e0 : n.ch = 42 := e0
  have e1 : (nextch src n).ch = 61 := e1
  exact ⟨tk 5 (nextch src (opr 17 5 (nextch src n))), by simp [swT, Tree.get, swNum, sw1, sw4, swA, finG, asgF, nextch_opr, nextch_op, opr_ch, op_ch, show isDecimalF 46 = false by decide, e0, e1], sgR_of hx hs rfl rfl rfl rfl rfl rfl rfl rfl (by kernel_rfl) (by show (5 : Int) ≠ 1; decide) (.inl ⟨by kernel_rfl, rfl⟩)⟩
theorem sg_10 {src : ByteArray} {q : Nat} {n : St} {nl : Bool} (h : Std src q n) (hS : SgAt src q ⟨#[47, 61]⟩) : SgTo src nl n (q + 2) ⟨#[47, 61]⟩ := by
  obtain ⟨e0, e1, hx, hs⟩ := step2 h hS.sub (by decide) (by decide) hS.cl
  have e0 : n.ch = 47 := e0
  have e1 : (nextch src n).ch = 61 := e1
  exact ⟨tk 5 (nextch src (opr 18 5 (nextch src n))), by simp [swT, Tree.get, swNum, sw1, sw4, swA, finG, asgF, nextch_opr, nextch_op, opr_ch, op_ch, show isDecimalF 46 = false by decide, e0, e1], sgR_of hx hs rfl rfl rfl rfl rfl rfl rfl rfl (by kernel_rfl) (by show (5 : Int) ≠ 1; decide) (.inl ⟨by kernel_rfl, rfl⟩)⟩
theorem sg_11 {src : ByteArray} {q : Nat} {n : St} {nl : Bool} (h : Std src q n) (hS : SgAt src q ⟨#[37, 61]⟩) : SgTo src nl n (q + 2) ⟨#[37, 61]⟩ := by
  obtain ⟨e0, e1, hx, hs⟩ := step2 h hS.sub (by decide) (by decide) hS.cl
  have e0 : n.ch = 37 := e0
  have e1 : (nextch src n).ch = 61 := e1
  exact ⟨tk 5 (nextch src (opr 19 5 (nextch src n))), by simp [swT, Tree.get, swNum, sw1, sw4, swA, finG, asgF, nextch_opr, nextch_op, opr_ch, op_ch, show isDecimalF 46 = false by decide, e0, e1], sgR_of hx hs rfl rfl rfl rfl rfl rfl rfl rfl (by kernel_rfl) (by show (5 : Int) ≠ 1; decide) (.inl ⟨by kernel_rfl, rfl⟩)⟩
theorem sg_12 {src : ByteArray} {q : Nat} {n : St} {nl : Bool} (h : Std src q n) (hS : SgAt src q ⟨#[38, 61]⟩) : SgTo src nl n (q + 2) ⟨#[38, 61]⟩ := by
  obtain ⟨e0, e1, hx, hs⟩ := step2 h hS.sub (by decide) (by decide) hS.cl
  have e0 : n.ch = 38 := e0
  have e1 : (nextch src n).ch = 61 := e1
  exact ⟨tk 5 (nextch src (opr 20 5 (nextch src n))), by simp [swT, Tree.get, swNum, sw1, sw4, swA, finG, asgF, nextch_opr, nextch_op, opr_ch, op_ch, show isDecimalF 46 = false by decide, e0, e1], sgR_of hx hs rfl rfl rfl rfl rfl rfl rfl rfl (by kernel_rfl) (by show (5 : Int) ≠ 1; decide) (.inl ⟨by kernel_rfl, rfl⟩)⟩
theorem sg_13 {src : ByteArray} {q : Nat} {n : St} {nl : Bool} (h : Std src q n) (hS : SgAt src q ⟨#[124, 61]⟩) : SgTo src nl n (q + 2) ⟨#[124, 61]⟩ := by
  obtain ⟨e0, e1, hx, hs⟩ := step2 h hS.sub (by decide) (by decide) hS.cl
  have e0 : n.ch = 124 := e0
  have e1 : (nextch src n).ch = 61 := e1
  exact ⟨tk 5 (nextch src (opr 15 4 (nextch src n))), by simp [swT, Tree.get, swNum, sw1, sw4, swA, finG, asgF, nextch_opr, nextch_op, opr_ch, op_ch, show isDecimalF 46 = false by decide, e0, e1], sgR_of hx hs rfl rfl rfl rfl rfl rfl rfl rfl (by kernel_rfl) (by show (5 : Int) ≠ 1; decide) (.inl ⟨by kernel_rfl, rfl⟩)⟩
theorem sg_14 {src : ByteArray} {q : Nat} {n : St} {nl : Bool} (h : Std src q n) (hS : SgAt src q ⟨#[94, 61]⟩) : SgTo src nl n (q + 2) ⟨#[94, 61]⟩ := by
  obtain ⟨e0, e1, hx, hs⟩ := step2 h hS.sub (by decide) (by decide) hS.cl
  have e0 : n.ch = 94 := e0
  have e1 : (nextch src n).ch = 61 := e1
  exact ⟨tk 5 (nextch src (opr 16 4 (nextch src n))), by simp [swT, Tree.get, swNum, sw1, sw4, swA, finG, asgF, nextch_opr, nextch_op, opr_ch, op_ch, show isDecimalF 46 = false by decide, e0, e1], sgR_of hx hs rfl rfl rfl rfl rfl rfl rfl rfl (by kernel_rfl) (by show (5 : Int) ≠ 1; decide) (.inl ⟨by kernel_rfl, rfl⟩)⟩
theorem sg_15 {src : ByteArray} {q : Nat} {n : St} {nl : Bool} (h : Std src q n) (hS : SgAt src q ⟨#[38, 38]⟩) : SgTo src nl n (q + 2) ⟨#[38, 38]⟩ := by
  obtain ⟨e0, e1, hx, hs⟩ := step2 h hS.sub (by decide) (by decide) hS.cl
  have e0 : n.ch = 38 := e0
  have e1 : (nextch src n).ch = 38 := e1
  exact ⟨tk 4 (opr 6 2 (nextch src (nextch src n))), by simp [swT, Tree.get, swNum, sw1, sw4, swA, finG, asgF, nextch_opr, nextch_op, opr_ch, op_ch, show isDecimalF 46 = false by decide, e0, e1], sgR_of hx hs rfl rfl rfl rfl rfl rfl rfl rfl (by kernel_rfl) (by show (4 : Int) ≠ 1; decide) (.inl ⟨by kernel_rfl, rfl⟩)⟩
theorem sg_16 {src : ByteArray} {q : Nat} {n : St} {nl : Bool} (h : Std src q n) (hS : SgAt src q ⟨#[124, 124]⟩) : SgTo src nl n (q + 2) ⟨#[124, 124]⟩ := by
  obtain ⟨e0, e1, hx, hs⟩ := step2 h hS.sub (by decide) (by decide) hS.cl
  have e0 : n.ch = 124 := e0
  have e1 : (nextch src n).ch = 124 := e1
  exact ⟨tk 4 (opr 5 1 (nextch src (nextch src n))), by simp [swT, Tree.get, swNum, sw1, sw4, swA, finG, asgF, nextch_opr, nextch_op, opr_ch, op_ch, show isDecimalF 46 = false by decide, e0, e1], sgR_of hx hs rfl rfl rfl rfl rfl rfl rfl rfl (by kernel_rfl) (by show (4 : Int) ≠ 1; decide) (.inl ⟨by kernel_rfl, rfl⟩)⟩
theorem sg_17 {src : ByteArray} {q : Nat} {n : St} {nl : Bool} (h : Std src q n) (hS : SgAt src q ⟨#[60, 45]⟩) : SgTo src nl n (q + 2) ⟨#[60, 45]⟩ := by
  obtain ⟨e0, e1, hx, hs⟩ := step2 h hS.sub (by decide) (by decide) hS.cl
  have e0 : n.ch = 60 := e0
  have e1 : (nextch src n).ch = 45 := e1
  exact ⟨tk 9 (nextch src (nextch src n)), by simp [swT, Tree.get, swNum, sw1, sw4, swA, finG, asgF, nextch_opr, nextch_op, opr_ch, op_ch, show isDecimalF 46 = false by decide, e0, e1], sgR_of hx hs rfl rfl rfl rfl rfl rfl rfl rfl (by kernel_rfl) (by show (9 : Int) ≠ 1; decide) (.inl ⟨by kernel_rfl, rfl⟩)⟩
theorem sg_18 {src : ByteArray} {q : Nat} {n : St} {nl : Bool} (h : Std src q n) (hS : SgAt src q ⟨#[43, 43]⟩) : SgTo src nl n (q + 2) ⟨#[43, 43]⟩ := by
  obtain ⟨e0, e1, hx, hs⟩ := step2 h hS.sub (by decide) (by decide) hS.cl
  have e0 : n.ch = 43 := e0
  have e1 : (nextch src n).ch = 43 := e1
  exact ⟨tk 6 (semi (nextch src (opr 13 4 (nextch src n)))), by simp [swT, Tree.get, swNum, sw1, sw4, swA, finG, asgF, nextch_opr, nextch_op, opr_ch, op_ch, show isDecimalF 46 = false by decide, e0, e1], sgR_of hx hs rfl rfl rfl rfl rfl rfl rfl rfl (by kernel_rfl) (by show (6 : Int) ≠ 1; decide) (.inr ⟨by kernel_rfl, rfl⟩)⟩
theorem sg_19 {src : ByteArray} {q : Nat} {n : St} {nl : Bool} (h : Std src q n) (hS : SgAt src q ⟨#[45, 45]⟩) : SgTo src nl n (q + 2) ⟨#[45, 45]⟩ := by
  obtain ⟨e0, e1, hx, hs⟩ := step2 h hS.sub (by decide) (by decide) hS.cl
  have e0 : n.ch = 45 := e0
  have e1 : (nextch src n).ch = 45 := e1
  exact ⟨tk 6 (semi (nextch src (opr 14 4 (nextch src n)))), by simp [swT, Tree.get, swNum, sw1, sw4, swA, finG, asgF, nextch_opr, nextch_op, opr_ch, op_ch, show isDecimalF 46 = false by decide, e0, e1], sgR_of hx hs rfl rfl rfl rfl rfl rfl rfl rfl (by kernel_rfl) (by show (6 : Int) ≠ 1; decide) (.inr ⟨by kernel_rfl, rfl⟩)⟩
theorem sg_20 {src : ByteArray} {q : Nat} {n : St} {nl : Bool} (h : Std src q n) (hS : SgAt src q ⟨#[61, 61]⟩) : SgTo src nl n (q + 2) ⟨#[61, 61]⟩ := by
  obtain ⟨e0, e1, hx, hs⟩ := step2 h hS.sub (by decide) (by decide) hS.cl
  have e0 : n.ch = 61 := e0
  have e1 : (nextch src n).ch = 61 := e1
  exact ⟨tk 4 (opr 7 3 (nextch src (nextch src n))), by simp [swT, Tree.get, swNum, sw1, sw4, swA, finG, asgF, nextch_opr, nextch_op, opr_ch, op_ch, show isDecimalF 46 = false by decide, e0, e1], sgR_of hx hs rfl rfl rfl rfl rfl rfl rfl rfl (by kernel_rfl) (by show (4 : Int) ≠ 1; decide) (.inl ⟨by kernel_rfl, rfl⟩)⟩
theorem sg_21 {src : ByteArray} {q : Nat} {n : St} {nl : Bool} (h : Std src q n) (hS : SgAt src q ⟨#[33, 61]⟩) : SgTo src nl n (q + 2) ⟨#[33, 61]⟩ := by
  obtain ⟨e0, e1, hx, hs⟩ := step2 h hS.sub (by decide) (by decide) hS.cl
  have e0 : n.ch = 33 := e0
  have e1 : (nextch src n).ch = 61 := e1
  exact ⟨tk 4 (opr 8 3 (nextch src (nextch src n))), by simp [swT, Tree.get, swNum, sw1, sw4, swA, finG, asgF, nextch_opr, nextch_op, opr_ch, op_ch, show isDecimalF 46 = false by decide, e0, e1], sgR_of hx hs rfl rfl rfl rfl rfl rfl rfl rfl (by kernel_rfl) (by show (4 : Int) ≠ 1; decide) (.inl ⟨by kernel_rfl, rfl⟩)⟩
theorem sg_22 {src : ByteArray} {q : Nat} {n : St} {nl : Bool} (h : Std src q n) (hS : SgAt src q ⟨#[60, 61]⟩) : SgTo src nl n (q + 2) ⟨#[60, 61]⟩ := by
  obtain ⟨e0, e1, hx, hs⟩ := step2 h hS.sub (by decide) (by decide) hS.cl
  have e0 : n.ch = 60 := e0
  have e1 : (nextch src n).ch = 61 := e1
  exact ⟨tk 4 (opr 10 3 (nextch src (nextch src n))), by simp [swT, Tree.get, swNum, sw1, sw4, swA, finG, asgF, nextch_opr, nextch_op, opr_ch, op_ch, show isDecimalF 46 = false by decide, e0, e1], sgR_of hx hs rfl rfl rfl rfl rfl rfl rfl rfl (by kernel_rfl) (by show (4 : Int) ≠ 1; decide) (.inl ⟨by kernel_rfl, rfl⟩)⟩
theorem sg_23 {src : ByteArray} {q : Nat} {n : St} {nl : Bool} (h : Std src q n) (hS : SgAt src q ⟨#[62, 61]⟩) : SgTo src nl n (q + 2) ⟨#[62, 61]⟩ := by
  obtain ⟨e0, e1, hx, hs⟩ := step2 h hS.sub (by decide) (by decide) hS.cl
  have e0 : n.ch = 62 := e0
  have e1 : (nextch src n).ch = 61 := e1
  exact ⟨tk 4 (opr 12 3 (nextch src (nextch src n))), by simp [swT, Tree.get, swNum, sw1, sw4, swA, finG, asgF, nextch_opr, nextch_op, opr_ch, op_ch, show isDecimalF 46 = false by decide, e0, e1], sgR_of hx hs rfl rfl rfl rfl rfl rfl rfl rfl (by kernel_rfl) (by show (4 : Int) ≠ 1; decide) (.inl ⟨by kernel_rfl, rfl⟩)⟩
theorem sg_24 {src : ByteArray} {q : Nat} {n : St} {nl : Bool} (h : Std src q n) (hS : SgAt src q ⟨#[58, 61]⟩) : SgTo src nl n (q + 2) ⟨#[58, 61]⟩ := by
  obtain ⟨e0, e1, hx, hs⟩ := step2 h hS.sub (by decide) (by decide) hS.cl
  have e0 : n.ch = 58 := e0
  have e1 : (nextch src n).ch = 61 := e1
  exact ⟨tk 8 (nextch src (nextch src n)), by simp [swT, Tree.get, swNum, sw1, sw4, swA, finG, asgF, nextch_opr, nextch_op, opr_ch, op_ch, show isDecimalF 46 = false by decide, e0, e1], sgR_of hx hs rfl rfl rfl rfl rfl rfl rfl rfl (by kernel_rfl) (by show (8 : Int) ≠ 1; decide) (.inl ⟨by kernel_rfl, rfl⟩)⟩
theorem sg_25 {src : ByteArray} {q : Nat} {n : St} {nl : Bool} (h : Std src q n) (hS : SgAt src q ⟨#[43]⟩) : SgTo src nl n (q + 1) ⟨#[43]⟩ := by
  obtain ⟨e0, hx, hs⟩ := step1 h hS.sub (by decide) hS.cl
  have e0 : n.ch = 43 := e0
  have k0 : (nextch src n).ch ≠ 61 := noext hS.sub hx 61 (by decide) (hS.max.no 61 (by kernel_rfl))
  have k1 : (nextch src n).ch ≠ 43 := noext hS.sub hx 43 (by decide) (hS.max.no 43 (by kernel_rfl))
  exact ⟨tk 4 (opr 13 4 (nextch src n)), by simp [swT, Tree.get, swNum, sw1, sw4, swA, finG, asgF, nextch_opr, nextch_op, opr_ch, op_ch, show isDecimalF 46 = false by decide, e0, k0, k1], sgR_of hx hs rfl rfl rfl rfl rfl rfl rfl rfl (by kernel_rfl) (by show (4 : Int) ≠ 1; decide) (.inl ⟨by kernel_rfl, rfl⟩)⟩
theorem sg_26 {src : ByteArray} {q : Nat} {n : St} {nl : Bool} (h : Std src q n) (hS : SgAt src q ⟨#[45]⟩) : SgTo src nl n (q + 1) ⟨#[45]⟩ := by
  obtain ⟨e0, hx, hs⟩ := step1 h hS.sub (by decide) hS.cl
  have e0 : n.ch = 45 := e0
  have k0 : (nextch src n).ch ≠ 61 := noext hS.sub hx 61 (by decide) (hS.max.no 61 (by kernel_rfl))
  have k1 : (nextch src n).ch ≠ 45 := noext hS.sub hx 45 (by decide) (hS.max.no 45 (by kernel_rfl))
  exact ⟨tk 4 (opr 14 4 (nextch src n)), by simp [swT, Tree.get, swNum, sw1, sw4, swA, finG, asgF, nextch_opr, nextch_op, opr_ch, op_ch, show isDecimalF 46 = false by decide, e0, k0, k1], sgR_of hx hs rfl rfl rfl rfl rfl rfl rfl rfl (by kernel_rfl) (by show (4 : Int) ≠ 1; decide) (.inl ⟨by kernel_rfl, rfl⟩)⟩
theorem sg_27 {src : ByteArray} {q : Nat} {n : St} {nl : Bool} (h : Std src q n) (hS : SgAt src q ⟨#[42]⟩) : SgTo src nl n (q + 1) ⟨#[42]⟩ := by
  obtain ⟨e0, hx, hs⟩ := step1 h hS.sub (by decide) hS.cl
  have e0 : n.ch = 42 := e0
  have k0 : (nextch src n).ch ≠ 61 := noext hS.sub hx 61 (by decide) (hS.max.no 61 (by kernel_rfl))
  exact ⟨tk 10 (opr 17 5 (nextch src n)), by simp [swT, Tree.get, swNum, sw1, sw4, swA, finG, asgF, nextch_opr, nextch_op, opr_ch, op_ch, show isDecimalF 46 = false by decide, e0, k0], sgR_of hx hs rfl rfl rfl rfl rfl rfl rfl rfl (by kernel_rfl) (by show (10 : Int) ≠ 1; decide) (.inl ⟨by kernel_rfl, rfl⟩)⟩
theorem sg_28 {src : ByteArray} {q : Nat} {n : St} {nl : Bool} (h : Std src q n) (hS : SgAt src q ⟨#[47]⟩) : SgTo src nl n (q + 1) ⟨#[47]⟩ := by
  obtain ⟨e0, hx, hs⟩ := step1 h hS.sub (by decide) hS.cl
  have e0 : n.ch = 47 := e0
  have k0 : (nextch src n).ch ≠ 61 := noext hS.sub hx 61 (by decide) (hS.max.no 61 (by kernel_rfl))
  have r1 : (nextch src n).ch ≠ 47 := noext hS.sub hx 47 (by decide) hS.r1
  have r2 : (nextch src n).ch ≠ 42 := noext hS.sub hx 42 (by decide) hS.r2
  exact ⟨tk 4 (opr 18 5 (nextch src n)), by simp [swT, Tree.get, swNum, sw1, sw4, swA, finG, asgF, nextch_opr, nextch_op, opr_ch, op_ch, show isDecimalF 46 = false by decide, e0, k0, r1, r2], sgR_of hx hs rfl rfl rfl rfl rfl rfl rfl rfl (by kernel_rfl) (by show (4 : Int) ≠ 1; decide) (.inl ⟨by kernel_rfl, rfl⟩)⟩
theorem sg_29 {src : ByteArray} {q : Nat} {n : St} {nl : Bool} (h : Std src q n) (hS : SgAt src q ⟨#[37]⟩) : SgTo src nl n (q + 1) ⟨#[37]⟩ := by
  obtain ⟨e0, hx, hs⟩ := step1 h hS.sub (by decide) hS.cl
  have e0 : n.ch = 37 := e0
  have k0 : (nextch src n).ch ≠ 61 := noext hS.sub hx 61 (by decide) (hS.max.no 61 (by kernel_rfl))
  exact ⟨tk 4 (opr 19 5 (nextch src n)), by simp [swT, Tree.get, swNum, sw1, sw4, swA, finG, asgF, nextch_opr, nextch_op, opr_ch, op_ch, show isDecimalF 46 = false by decide, e0, k0], sgR_of hx hs rfl rfl rfl rfl rfl rfl rfl rfl (by kernel_rfl) (by show (4 : Int) ≠ 1; decide) (.inl ⟨by kernel_rfl, rfl⟩)⟩
theorem sg_30 {src : ByteArray} {q : Nat} {n : St} {nl : Bool} (h : Std src q n) (hS : SgAt src q ⟨#[38]⟩) : SgTo src nl n (q + 1) ⟨#[38]⟩ := by
  obtain ⟨e0, hx, hs⟩ := step1 h hS.sub (by decide) hS.cl
  have e0 : n.ch = 38 := e0
  have k0 : (nextch src n).ch ≠ 94 := noext hS.sub hx 94 (by decide) (hS.max.no 94 (by kernel_rfl))
  have k1 : (nextch src n).ch ≠ 61 := noext hS.sub hx 61 (by decide) (hS.max.no 61 (by kernel_rfl))
  have k2 : (nextch src n).ch ≠ 38 := noext hS.sub hx 38 (by decide) (hS.max.no 38 (by kernel_rfl))
  exact ⟨tk 4 (opr 20 5 (nextch src n)), by simp [swT, Tree.get, swNum, sw1, sw4, swA, finG, asgF, nextch_opr, nextch_op, opr_ch, op_ch, show isDecimalF 46 = false by decide, e0, k0, k1, k2], sgR_of hx hs rfl rfl rfl rfl rfl rfl rfl rfl (by kernel_rfl) (by show (4 : Int) ≠ 1; decide) (.inl ⟨by kernel_rfl, rfl⟩)⟩
theorem sg_31 {src : ByteArray} {q : Nat} {n : St} {nl : Bool} (h : Std src q n) (hS : SgAt src q ⟨#[124]⟩) : SgTo src nl n (q + 1) ⟨#[124]⟩ := by
  obtain ⟨e0, hx, hs⟩ := step1 h hS.sub (by decide) hS.cl
  have e0 : n.ch = 124 := e0
  have k0 : (nextch src n).ch ≠ 61 := noext hS.sub hx 61 (by decide) (hS.max.no 61 (by kernel_rfl))
  have k1 : (nextch src n).ch ≠ 124 := noext hS.sub hx 124 (by decide) (hS.max.no 124 (by kernel_rfl))
  exact ⟨tk 4 (opr 15 4 (nextch src n)), by simp [swT, Tree.get, swNum, sw1, sw4, swA, finG, asgF, nextch_opr, nextch_op, opr_ch, op_ch, show isDecimalF 46 = false by decide, e0, k0, k1], sgR_of hx hs rfl rfl rfl rfl rfl rfl rfl rfl (by kernel_rfl) (by show (4 : Int) ≠ 1; decide) (.inl ⟨by kernel_rfl, rfl⟩)⟩
theorem sg_32 {src : ByteArray} {q : Nat} {n : St} {nl : Bool} (h : Std src q n) (hS : SgAt src q ⟨#[94]⟩) : SgTo src nl n (q + 1) ⟨#[94]⟩ := by
  obtain ⟨e0, hx, hs⟩ := step1 h hS.sub (by decide) hS.cl
  have e0 : n.ch = 94 := e0
  have k0 : (nextch src n).ch ≠ 61 := noext hS.sub hx 61 (by decide) (hS.max.no 61 (by kernel_rfl))
  exact ⟨tk 4 (opr 16 4 (nextch src n)), by simp [swT, Tree.get, swNum, sw1, sw4, swA, finG, asgF, nextch_opr, nextch_op, opr_ch, op_ch, show isDecimalF 46 = false by decide, e0, k0], sgR_of hx hs rfl rfl rfl rfl rfl rfl rfl rfl (by kernel_rfl) (by show (4 : Int) ≠ 1; decide) (.inl ⟨by kernel_rfl, rfl⟩)⟩
theorem sg_33 {src : ByteArray} {q : Nat} {n : St} {nl : Bool} (h : Std src q n) (hS : SgAt src q ⟨#[60]⟩) : SgTo src nl n (q + 1) ⟨#[60]⟩ := by
  obtain ⟨e0, hx, hs⟩ := step1 h hS.sub (by decide) hS.cl
  have e0 : n.ch = 60 := e0
  have k0 : (nextch src n).ch ≠ 60 := noext hS.sub hx 60 (by decide) (hS.max.no 60 (by kernel_rfl))
  have k1 : (nextch src n).ch ≠ 45 := noext hS.sub hx 45 (by decide) (hS.max.no 45 (by kernel_rfl))
  have k2 : (nextch src n).ch ≠ 61 := noext hS.sub hx 61 (by decide) (hS.max.no 61 (by kernel_rfl))
  exact ⟨tk 4 (opr 9 3 (nextch src n)), by simp [swT, Tree.get, swNum, sw1, sw4, swA, finG, asgF, nextch_opr, nextch_op, opr_ch, op_ch, show isDecimalF 46 = false by decide, e0, k0, k1, k2], sgR_of hx hs rfl rfl rfl rfl rfl rfl rfl rfl (by kernel_rfl) (by show (4 : Int) ≠ 1; decide) (.inl ⟨by kernel_rfl, rfl⟩)⟩
theorem sg_34 {src : ByteArray} {q : Nat} {n : St} {nl : Bool} (h : Std src q n) (hS : SgAt src q ⟨#[62]⟩) : SgTo src nl n (q + 1) ⟨#[62]⟩ := by
  obtain ⟨e0, hx, hs⟩ := step1 h hS.sub (by decide) hS.cl
  have e0 : n.ch = 62 := e0
  have k0 : (nextch src n).ch ≠ 62 := noext hS.sub hx 62 (by decide) (hS.max.no 62 (by kernel_rfl))
  have k1 : (nextch src n).ch ≠ 61 := noext hS.sub hx 61 (by decide) (hS.max.no 61 (by kernel_rfl))
  exact ⟨tk 4 (opr 11 3 (nextch src n)), by simp [swT, Tree.get, swNum, sw1, sw4, swA, finG, asgF, nextch_opr, nextch_op, opr_ch, op_ch, show isDecimalF 46 = false by decide, e0, k0, k1], sgR_of hx hs rfl rfl rfl rfl rfl rfl rfl rfl (by kernel_rfl) (by show (4 : Int) ≠ 1; decide) (.inl ⟨by kernel_rfl, rfl⟩)⟩
theorem sg_35 {src : ByteArray} {q : Nat} {n : St} {nl : Bool} (h : Std src q n) (hS : SgAt src q ⟨#[61]⟩) : SgTo src nl n (q + 1) ⟨#[61]⟩ := by
  obtain ⟨e0, hx, hs⟩ := step1 h hS.sub (by decide) hS.cl
  have e0 : n.ch = 61 := e0
  have k0 : (nextch src n).ch ≠ 61 := noext hS.sub hx 61 (by decide) (hS.max.no 61 (by kernel_rfl))
  exact ⟨tk 7 (nextch src n), by simp [swT, Tree.get, swNum, sw1, sw4, swA, finG, asgF, nextch_opr, nextch_op, opr_ch, op_ch, show isDecimalF 46 = false by decide, e0, k0], sgR_of hx hs rfl rfl rfl rfl rfl rfl rfl rfl (by kernel_rfl) (by show (7 : Int) ≠ 1; decide) (.inl ⟨by kernel_rfl, rfl⟩)⟩
theorem sg_36 {src : ByteArray} {q : Nat} {n : St} {nl : Bool} (h : Std src q n) (hS : SgAt src q ⟨#[33]⟩) : SgTo src nl n (q + 1) ⟨#[33]⟩ := by
  obtain ⟨e0, hx, hs⟩ := step1 h hS.sub (by decide) hS.cl
  have e0 : n.ch = 33 := e0
  have k0 : (nextch src n).ch ≠ 61 := noext hS.sub hx 61 (by decide) (hS.max.no 61 (by kernel_rfl))
  exact ⟨tk 4 (opr 2 0 (nextch src n)), by simp [swT, Tree.get, swNum, sw1, sw4, swA, finG, asgF, nextch_opr, nextch_op, opr_ch, op_ch, show isDecimalF 46 = false by decide, e0, k0], sgR_of hx hs rfl rfl rfl rfl rfl rfl rfl rfl (by kernel_rfl) (by show (4 : Int) ≠ 1; decide) (.inl ⟨by kernel_rfl, rfl⟩)⟩
theorem sg_37 {src : ByteArray} {q : Nat} {n : St} {nl : Bool} (h : Std src q n) (hS : SgAt src q ⟨#[126]⟩) : SgTo src nl n (q + 1) ⟨#[126]⟩ := by
  obtain ⟨e0, hx, hs⟩ := step1 h hS.sub (by decide) hS.cl
  have e0 : n.ch = 126 := e0
  exact ⟨tk 4 (opr 4 0 (nextch src n)), by simp [swT, Tree.get, swNum, sw1, sw4, swA, finG, asgF, nextch_opr, nextch_op, opr_ch, op_ch, show isDecimalF 46 = false by decide, e0], sgR_of hx hs rfl rfl rfl rfl rfl rfl rfl rfl (by kernel_rfl) (by show (4 : Int) ≠ 1; decide) (.inl ⟨by kernel_rfl, rfl⟩)⟩
theorem sg_38 {src : ByteArray} {q : Nat} {n : St} {nl : Bool} (h : Std src q n) (hS : SgAt src q ⟨#[40]⟩) : SgTo src nl n (q + 1) ⟨#[40]⟩ := by
  obtain ⟨e0, hx, hs⟩ := step1 h hS.sub (by decide) hS.cl
  have e0 : n.ch = 40 := e0
  exact ⟨tk 11 (nextch src n), by simp [swT, Tree.get, swNum, sw1, sw4, swA, finG, asgF, nextch_opr, nextch_op, opr_ch, op_ch, show isDecimalF 46 = false by decide, e0], sgR_of hx hs rfl rfl rfl rfl rfl rfl rfl rfl (by kernel_rfl) (by show (11 : Int) ≠ 1; decide) (.inl ⟨by kernel_rfl, rfl⟩)⟩
theorem sg_39 {src : ByteArray} {q : Nat} {n : St} {nl : Bool} (h : Std src q n) (hS : SgAt src q ⟨#[41]⟩) : SgTo src nl n (q + 1) ⟨#[41]⟩ := by
  obtain ⟨e0, hx, hs⟩ := step1 h hS.sub (by decide) hS.cl
  have e0 : n.ch = 41 := e0
  exact ⟨tk 14 (semi (nextch src n)), by simp [swT, Tree.get, swNum, sw1, sw4, swA, finG, asgF, nextch_opr, nextch_op, opr_ch, op_ch, show isDecimalF 46 = false by decide, e0], sgR_of hx hs rfl rfl rfl rfl rfl rfl rfl rfl (by kernel_rfl) (by show (14 : Int) ≠ 1; decide) (.inr ⟨by kernel_rfl, rfl⟩)⟩
theorem sg_40 {src : ByteArray} {q : Nat} {n : St} {nl : Bool} (h : Std src q n) (hS : SgAt src q ⟨#[91]⟩) : SgTo src nl n (q + 1) ⟨#[91]⟩ := by
  obtain ⟨e0, hx, hs⟩ := step1 h hS.sub (by decide) hS.cl
  have e0 : n.ch = 91 := e0
  exact ⟨tk 12 (nextch src n), by simp [swT, Tree.get, swNum, sw1, sw4, swA, finG, asgF, nextch_opr, nextch_op, opr_ch, op_ch, show isDecimalF 46 = false by decide, e0], sgR_of hx hs rfl rfl rfl rfl rfl rfl rfl rfl (by kernel_rfl) (by show (12 : Int) ≠ 1; decide) (.inl ⟨by kernel_rfl, rfl⟩)⟩
theorem sg_41 {src : ByteArray} {q : Nat} {n : St} {nl : Bool} (h : Std src q n) (hS : SgAt src q ⟨#[93]⟩) : SgTo src nl n (q + 1) ⟨#[93]⟩ := by
  obtain ⟨e0, hx, hs⟩ := step1 h hS.sub (by decide) hS.cl
  have e0 : n.ch = 93 := e0
  exact ⟨tk 15 (semi (nextch src n)), by simp [swT, Tree.get, swNum, sw1, sw4, swA, finG, asgF, nextch_opr, nextch_op, opr_ch, op_ch, show isDecimalF 46 = false by decide, e0], sgR_of hx hs rfl rfl rfl rfl rfl rfl rfl rfl (by kernel_rfl) (by show (15 : Int) ≠ 1; decide) (.inr ⟨by kernel_rfl, rfl⟩)⟩
theorem sg_42 {src : ByteArray} {q : Nat} {n : St} {nl : Bool} (h : Std src q n) (hS : SgAt src q ⟨#[123]⟩) : SgTo src nl n (q + 1) ⟨#[123]⟩ := by
  obtain ⟨e0, hx, hs⟩ := step1 h hS.sub (by decide) hS.cl
  have e0 : n.ch = 123 := e0
  exact ⟨tk 13 (nextch src n), by simp [swT, Tree.get, swNum, sw1, sw4, swA, finG, asgF, nextch_opr, nextch_op, opr_ch, op_ch, show isDecimalF 46 = false by decide, e0], sgR_of hx hs rfl rfl rfl rfl rfl rfl rfl rfl (by kernel_rfl) (by show (13 : Int) ≠ 1; decide) (.inl ⟨by kernel_rfl, rfl⟩)⟩
theorem sg_43 {src : ByteArray} {q : Nat} {n : St} {nl : Bool} (h : Std src q n) (hS : SgAt src q ⟨#[125]⟩) : SgTo src nl n (q + 1) ⟨#[125]⟩ := by
  obtain ⟨e0, hx, hs⟩ := step1 h hS.sub (by decide) hS.cl
  have e0 : n.ch = 125 := e0
  exact ⟨tk 16 (semi (nextch src n)), by simp [swT, Tree.get, swNum, sw1, sw4, swA, finG, asgF, nextch_opr, nextch_op, opr_ch, op_ch, show isDecimalF 46 = false by decide, e0], sgR_of hx hs rfl rfl rfl rfl rfl rfl rfl rfl (by kernel_rfl) (by show (16 : Int) ≠ 1; decide) (.inr ⟨by kernel_rfl, rfl⟩)⟩
theorem sg_44 {src : ByteArray} {q : Nat} {n : St} {nl : Bool} (h : Std src q n) (hS : SgAt src q ⟨#[44]⟩) : SgTo src nl n (q + 1) ⟨#[44]⟩ := by
  obtain ⟨e0, hx, hs⟩ := step1 h hS.sub (by decide) hS.cl
  have e0 : n.ch = 44 := e0
  exact ⟨tk 17 (nextch src n), by simp [swT, Tree.get, swNum, sw1, sw4, swA, finG, asgF, nextch_opr, nextch_op, opr_ch, op_ch, show isDecimalF 46 = false by decide, e0], sgR_of hx hs rfl rfl rfl rfl rfl rfl rfl rfl (by kernel_rfl) (by show (17 : Int) ≠ 1; decide) (.inl ⟨by kernel_rfl, rfl⟩)⟩
theorem sg_46 {src : ByteArray} {q : Nat} {n : St} {nl : Bool} (h : Std src q n) (hS : SgAt src q ⟨#[58]⟩) : SgTo src nl n (q + 1) ⟨#[58]⟩ := by
  obtain ⟨e0, hx, hs⟩ := step1 h hS.sub (by decide) hS.cl
  have e0 : n.ch = 58 := e0
  have k0 : (nextch src n).ch ≠ 61 := noext hS.sub hx 61 (by decide) (hS.max.no 61 (by kernel_rfl))
  exact ⟨tk 19 (nextch src n), by simp [swT, Tree.get, swNum, sw1, sw4, swA, finG, asgF, nextch_opr, nextch_op, opr_ch, op_ch, show isDecimalF 46 = false by decide, e0, k0], sgR_of hx hs rfl rfl rfl rfl rfl rfl rfl rfl (by kernel_rfl) (by show (19 : Int) ≠ 1; decide) (.inl ⟨by kernel_rfl, rfl⟩)⟩
/-- A point, whatever stands behind it. -/
theorem sg_45 {src : ByteArray} {q : Nat} {n : St} {nl : Bool} (h : Std src q n) (hb : n.b = some q) (hS : SgAt src q ⟨#[46]⟩) : SgTo src nl n (q + 1) ⟨#[46]⟩ := by
  obtain ⟨e0, hx, hs⟩ := step1 h hS.sub (by decide) hS.cl
  have e0 : n.ch = 46 := e0
  have hd := hS.dig (by kernel_rfl) _ hx
  by_cases h2 : (nextch src n).ch = 46
  · have hc : ChAt src (q + 1) 46 1 := by
      have := hx.at (by omega)
      rw [h2] at this
      have hw := (this.byte (by decide)).2
      rw [hw] at this
      exact this
    obtain ⟨_, hx2, hs2⟩ := std_on hx hc (hS.dots (by kernel_rfl) hc)
    have h3 : (nextch src (nextch src n)).ch ≠ 46 := fun e => by
      have hc2 := (hx2.at (by omega)).lt
      have hb2 := ((hx2.at (by omega)).byte (by omega)).1
      have hb1 := (hc.byte (by decide)).1
      have hc1 := hc.lt
      have := hS.max ⟨#[46, 46, 46]⟩ (by kernel_rfl) ⟨by show q + 3 ≤ _; omega, fun j hj => by
        have hj : j < 3 := hj
        match j, hj with
        | 0, _ => exact hS.sub.get 0 (by decide)
        | 1, _ => exact UInt8.toNat_inj.1 (by show _ = 46; omega)
        | 2, _ => exact UInt8.toNat_inj.1 (by show _ = 46; rw [show q + 2 = q + 1 + 1 from rfl]; omega)⟩
      exact absurd this (by decide)
    have hr : Std src q (rewind src (nextch src (nextch src n))) ∧ (rewind src (nextch src (nextch src n))).notes = (nextch src (nextch src n)).notes := by
      refine next_of ?_ (.inl ⟨_, _, sub_byte hS.sub 0 (by decide) (by decide) (by decide)⟩)
      show (nextch src (nextch src n)).b.getD 0 = q
      rw [(hs.trans hs2).on.b, hb]; rfl
    obtain ⟨_, hy, hs3⟩ := std_on hr.1 (sub_byte hS.sub 0 (by decide) (by decide) (by decide)) hS.cl
    refine ⟨tk 20 (nextch src (rewind src (nextch src (nextch src n)))), by simp [swT, Tree.get, swNum, sw1, sw4, swA, finG, asgF, e0, h2, h3, show isDecimalF 46 = false by decide], ?_⟩
    refine ⟨hy.same rfl rfl rfl rfl, ?_, rfl, by kernel_rfl, by show (20 : Int) ≠ 1; decide, .inl ⟨by kernel_rfl, rfl⟩, ⟨rfl, rfl⟩⟩
    show (nextch src (rewind src (nextch src (nextch src n)))).notes = n.notes
    rw [hs3.notes, hr.2, (hs.trans hs2).notes]
  · exact ⟨tk 20 (nextch src n), by simp [swT, Tree.get, swNum, sw1, sw4, swA, finG, asgF, e0, h2, hd], sgR_of hx hs rfl rfl rfl rfl rfl rfl rfl rfl (by kernel_rfl) (by show (20 : Int) ≠ 1; decide) (.inl ⟨by kernel_rfl, rfl⟩)⟩
theorem sg_all {src : ByteArray} {q : Nat} {n : St} {nl : Bool} {w : ByteArray} (h : Std src q n) (hb : n.b = some q) (hw : inSg w = true) (hS : SgAt src q w) : SgTo src nl n (q + w.size) w := by
  unfold inSg sgL at hw
  simp only [List.any_cons, List.any_nil, Bool.or_eq_true, beq_iff_eq, Bool.or_false] at hw
  rcases hw with hw | hw | hw | hw | hw | hw | hw | hw | hw | hw | hw | hw | hw | hw | hw | hw | hw | hw | hw | hw | hw | hw | hw | hw | hw | hw | hw | hw | hw | hw | hw | hw | hw | hw | hw | hw | hw | hw | hw | hw | hw | hw | hw | hw | hw | hw | hw
  · obtain rfl := toList_inj hw; exact sg_0 h hS
  · obtain rfl := toList_inj hw; exact sg_1 h hS
  · obtain rfl := toList_inj hw; exact sg_2 h hS
  · obtain rfl := toList_inj hw; exact sg_3 h hS
  · obtain rfl := toList_inj hw; exact sg_4 h hS
  · obtain rfl := toList_inj hw; exact sg_5 h hS
  · obtain rfl := toList_inj hw; exact sg_6 h hS
  · obtain rfl := toList_inj hw; exact sg_7 h hS
  · obtain rfl := toList_inj hw; exact sg_8 h hS
  · obtain rfl := toList_inj hw; exact sg_9 h hS
  · obtain rfl := toList_inj hw; exact sg_10 h hS
  · obtain rfl := toList_inj hw; exact sg_11 h hS
  · obtain rfl := toList_inj hw; exact sg_12 h hS
  · obtain rfl := toList_inj hw; exact sg_13 h hS
  · obtain rfl := toList_inj hw; exact sg_14 h hS
  · obtain rfl := toList_inj hw; exact sg_15 h hS
  · obtain rfl := toList_inj hw; exact sg_16 h hS
  · obtain rfl := toList_inj hw; exact sg_17 h hS
  · obtain rfl := toList_inj hw; exact sg_18 h hS
  · obtain rfl := toList_inj hw; exact sg_19 h hS
  · obtain rfl := toList_inj hw; exact sg_20 h hS
  · obtain rfl := toList_inj hw; exact sg_21 h hS
  · obtain rfl := toList_inj hw; exact sg_22 h hS
  · obtain rfl := toList_inj hw; exact sg_23 h hS
  · obtain rfl := toList_inj hw; exact sg_24 h hS
  · obtain rfl := toList_inj hw; exact sg_25 h hS
  · obtain rfl := toList_inj hw; exact sg_26 h hS
  · obtain rfl := toList_inj hw; exact sg_27 h hS
  · obtain rfl := toList_inj hw; exact sg_28 h hS
  · obtain rfl := toList_inj hw; exact sg_29 h hS
  · obtain rfl := toList_inj hw; exact sg_30 h hS
  · obtain rfl := toList_inj hw; exact sg_31 h hS
  · obtain rfl := toList_inj hw; exact sg_32 h hS
  · obtain rfl := toList_inj hw; exact sg_33 h hS
  · obtain rfl := toList_inj hw; exact sg_34 h hS
  · obtain rfl := toList_inj hw; exact sg_35 h hS
  · obtain rfl := toList_inj hw; exact sg_36 h hS
  · obtain rfl := toList_inj hw; exact sg_37 h hS
  · obtain rfl := toList_inj hw; exact sg_38 h hS
  · obtain rfl := toList_inj hw; exact sg_39 h hS
  · obtain rfl := toList_inj hw; exact sg_40 h hS
  · obtain rfl := toList_inj hw; exact sg_41 h hS
  · obtain rfl := toList_inj hw; exact sg_42 h hS
  · obtain rfl := toList_inj hw; exact sg_43 h hS
  · obtain rfl := toList_inj hw; exact sg_44 h hS
  · obtain rfl := toList_inj hw; exact sg_45 h hb hS
  · obtain rfl := toList_inj hw; exact sg_46 h hS
end Sc
end Go.Proofs.YtogkcphobhhbdaaDoor

/- Plain: signs side by side. -/
namespace Go.Proofs.YtogkcphobhhbdaaDoor
open Go Go.RowKit Go.Lib
namespace Sc
open Ev
set_option maxRecDepth 100000
def signW (w : ByteArray) : WTok := ⟨3, w, 0, 0, 0⟩
theorem likeAll_nil : LikeAll [] [] := ⟨rfl, fun i s t h => by simp at h⟩
theorem likeAll_cons {s : St} {t : WTok} {L : List St} {W : List WTok} (h : Like s t) (h' : LikeAll L W) : LikeAll (s :: L) (t :: W) := by
  refine ⟨by simp [h'.1], fun i a b ha hb => ?_⟩
  cases i with
  | zero => cases ha; cases hb; exact h
  | succ i => exact h'.2 i a b ha hb
def tailW (b : Bool) : List WTok := if b = true then [semiW, endW] else [endW]
/-- The text's end behind a token. -/
theorem end_like {src : ByteArray} {p : Nat} {cs : List Int} {st : St} (hI : Iv src st) (hg : Go src p st) (hp : p ≤ src.size) (h : Cl src p cs src.size) (hb : ∀ x ∈ cs, cBlank st.nlsemi x = true) :
    ∃ L e, Toks src st L e ∧ e.notes = st.notes ∧ LikeAll L (tailW st.nlsemi) := by
  obtain ⟨L, e, h1, h2, h3, h4⟩ := end_toks hI hg hp h hb
  refine ⟨L, e, h1, h2, ?_⟩
  unfold tailW
  cases hn : st.nlsemi with
  | true =>
    rw [hn, if_pos rfl] at h4
    obtain ⟨s, e1, e2, e3⟩ := h4
    rw [e1, if_pos rfl]
    exact likeAll_cons (like_semi e2 e3) (likeAll_cons (like_end h3) likeAll_nil)
  | false =>
    rw [hn, if_neg (by simp)] at h4
    rw [h4, if_neg (by simp)]
    exact likeAll_cons (like_end h3) likeAll_nil
theorem sg_tab : (sgL.all fun w => decide (0 < w.size) && (w.data.toList.all fun b => decide (0 < b.toNat) && decide (b.toNat < 128) && !(decide (48 ≤ b.toNat) && decide (b.toNat ≤ 57)) && !isLetterF ((b.toNat : Nat) : Int) && !cBlank true ((b.toNat : Nat) : Int) && !cBlank false ((b.toNat : Nat) : Int))) = true := by kernel_rfl
/-- A byte of signs. -/
structure SgB (b : UInt8) : Prop where
  lo : 0 < b.toNat
  hi : b.toNat < 128
  dig : ¬ (48 ≤ b.toNat ∧ b.toNat ≤ 57)
  lt : isLetterF ((b.toNat : Nat) : Int) = false
  bl : ∀ nl, cBlank nl ((b.toNat : Nat) : Int) = false
theorem sg_mem {w : ByteArray} (h : inSg w = true) : w ∈ sgL := by
  unfold inSg at h
  rw [List.any_eq_true] at h
  obtain ⟨x, hx, he⟩ := h
  have e : x = w := toList_inj (by simpa using he)
  rw [← e]
  exact hx
theorem sg_bytes {w : ByteArray} (h : w ∈ sgL) : 0 < w.size ∧ ∀ j, j < w.size → SgB (w.get! j) := by
  have := List.all_eq_true.1 sg_tab w h
  rw [Bool.and_eq_true, decide_eq_true_iff] at this
  refine ⟨this.1, fun j hj => ?_⟩
  have hl : j < w.data.toList.length := by rw [size_toList]; exact hj
  have hm : w.get! j ∈ w.data.toList := by
    rw [get_list, List.getD_eq_getElem?_getD, List.getElem?_eq_getElem hl]
    exact List.getElem_mem hl
  have := List.all_eq_true.1 this.2 _ hm
  simp only [Bool.and_eq_true, decide_eq_true_eq, Bool.not_eq_true', Bool.and_eq_false_iff, decide_eq_false_iff_not] at this
  obtain ⟨⟨⟨⟨⟨a1, a2⟩, a3⟩, a4⟩, a5⟩, a6⟩ := this
  exact ⟨a1, a2, by omega, a4, fun nl => by cases nl <;> assumption⟩
/-- A pass at a sign. -/
theorem sign_pass {src : ByteArray} {nl : Bool} {p q : Nat} {cs : List Int} {st : St} {w : ByteArray} (hsz : src.size ≤ 2048) (hp0 : Pos0 src st) (hg : Go src p st) (hp : p ≤ src.size) (h : Cl src p cs q) (hb : ∀ x ∈ cs, cBlank nl x = true)
    (hw : inSg w = true) (hS : SgAt src q w) : ∃ n s, passes src nl st = (s, []) ∧ Here src q st n ∧ SgR src n (q + w.size) w s := by
  obtain ⟨z0, z1⟩ := sg_bytes (sg_mem hw)
  have z := z1 0 z0
  have hc : ChAt src q (((w.get! 0).toNat : Nat) : Int) 1 := by
    have := sub_byte hS.sub 0 z0 z.hi (Nat.ne_of_gt z.lo)
    rw [Nat.add_zero] at this
    exact this
  obtain ⟨n, hn, e⟩ := pass_here hg hp h hb (.inl ⟨_, _, hc⟩) (fun r' w' hc' => by rw [(hc'.uniq hc).1]; exact z.bl nl)
  have hch := (hn.std.of hc).1
  obtain ⟨s, k1, k2⟩ := sg_all (nl := nl) hn.std hn.b hw hS
  refine ⟨n, s, ?_, hn, k2⟩
  rw [passes_step hp0 hsz, e, hd_sw (by rw [hch]; exact z.lt) (by rw [hch]; have := z.hi; omega)]
  exact k1
/-- A token that is a sign. -/
theorem tok_sign {src : ByteArray} {p q : Nat} {cs : List Int} {st : St} {w : ByteArray} (hI : Iv src st) (hg : Go src p st) (hp : p ≤ src.size) (h : Cl src p cs q) (hb : ∀ x ∈ cs, cBlank st.nlsemi x = true)
    (hw : inSg w = true) (hS : SgAt src q w) : Std src (q + w.size) (nextF src st).1 ∧ (nextF src st).1.notes = st.notes ∧ Like (nextF src st).1 (signW w) ∧ (nextF src st).1.tok ≠ 1 ∧ (nextF src st).1.nlsemi = endsLineF w := by
  obtain ⟨n, s, k1, k2, k3⟩ := sign_pass (nl := st.nlsemi) hI.sz (pos0_nl hI.pos false) (hg.same rfl rfl rfl rfl) hp h hb hw hS
  have e : (nextF src st).1 = s := by rw [nextF_passes, k1]
  rw [e]
  refine ⟨k3.std, k3.notes.trans k2.notes, ⟨k3.told, fun h => by cases h⟩, k3.ne, ?_⟩
  rcases k3.nl with ⟨h1, h2⟩ | ⟨h1, h2⟩
  · rw [h1, h2, k2.nl]
  · rw [h1, h2]
/-- Signs that follow one another up to the end. -/
inductive SgSeq (src : ByteArray) : Nat → List ByteArray → Prop
  | nil : SgSeq src src.size []
  | cons {p : Nat} {w : ByteArray} {ws : List ByteArray} : inSg w = true → SgAt src p w → SgSeq src (p + w.size) ws → SgSeq src p (w :: ws)
def nlEnd : Bool → List ByteArray → Bool
  | b, [] => b
  | _, w :: ws => nlEnd (endsLineF w) ws
theorem glued_toks {src : ByteArray} {p : Nat} {ws : List ByteArray} (h : SgSeq src p ws) : ∀ {st : St}, Iv src st → Go src p st → ∃ L e, Toks src st L e ∧ e.notes = st.notes ∧ LikeAll L (ws.map signW ++ tailW (nlEnd st.nlsemi ws)) := by
  induction h with
  | nil =>
    intro st hI hg
    exact end_like hI hg (Nat.le_refl _) .nil (fun x hx => absurd hx List.not_mem_nil)
  | @cons p w ws hw hS h ih =>
    intro st hI hg
    have hle := hS.sub.le
    obtain ⟨k1, k2, k3, k4, k5⟩ := tok_sign hI hg (by omega) .nil (fun x hx => absurd hx List.not_mem_nil) hw hS
    obtain ⟨L, e, g1, g2, g3⟩ := ih (iv_next hI).1 (.inl k1)
    rw [k5] at g3
    exact ⟨_, e, .more k4 g1, g2.trans k2, likeAll_cons k3 g3⟩
theorem nlEnd_last : ∀ (b : Bool) (ws : List ByteArray) (w : ByteArray), ws.getLast? = some w → nlEnd b ws = endsLineF w
  | b, [], w, h => by cases h
  | b, [x], w, h => by
    simp only [List.getLast?_singleton, Option.some.injEq] at h
    rw [← h]; rfl
  | b, x :: y :: t, w, h => by
    show nlEnd (endsLineF x) (y :: t) = _
    exact nlEnd_last _ (y :: t) w (by rw [List.getLast?_cons_of_ne_nil (by simp)] at h; exact h)
/-- A text of signs. -/
theorem glued_law {src : ByteArray} (hs : src.size ≤ 2048) {ws : List ByteArray} {w : ByteArray} (h : SgSeq src 0 ws) (hl : ws.getLast? = some w) : LikeAll (Sc.toks src 0) (closedF (ws.map signW) (signW w)) ∧ (last src 0).notes = [] := by
  obtain ⟨L, e, g1, g2, g3⟩ := glued_toks h (iv_start src 0 hs) (stI_go src 0)
  obtain ⟨k1, k2⟩ := g1.all hs
  rw [k1, k2]
  refine ⟨?_, g2⟩
  rw [nlEnd_last _ ws w hl] at g3
  have he : endsW (signW w) = endsLineF w := rfl
  unfold closedF
  rw [he]
  unfold tailW at g3
  cases hE : endsLineF w with
  | true => rw [hE] at g3; simpa using g3
  | false => rw [hE] at g3; simpa using g3
/-! Munched. -/
/-- The longest sign ahead. -/
def bestL (s : ByteArray) : List ByteArray → ByteArray → ByteArray
  | [], b => b
  | w :: l, b => bestL s l (if Lib.hasPrefix s.data.toList w.data.toList = true ∧ b.size < w.size then w else b)
def sl2 : ByteArray := ⟨#[47, 47]⟩
def slS : ByteArray := ⟨#[47, 42]⟩
def munF : Nat → ByteArray → Option (List ByteArray)
  | 0, _ => some []
  | n + 1, s => if s.size = 0 then some [] else if Lib.hasPrefix s.data.toList sl2.data.toList = true ∨ Lib.hasPrefix s.data.toList slS.data.toList = true then none
    else if (bestL s sgL ⟨#[]⟩).size = 0 then none else (munF n (s.extract (bestL s sgL ⟨#[]⟩).size s.size)).map fun l => bestL s sgL ⟨#[]⟩ :: l
theorem prefix_sub {s w : ByteArray} : Lib.hasPrefix s.data.toList w.data.toList = true ↔ Sub s 0 w := by
  unfold Lib.hasPrefix
  rw [List.isPrefixOf_iff_prefix]
  have hs : s.data.toList.length = s.size := size_toList s
  have hw : w.data.toList.length = w.size := size_toList w
  constructor
  · rintro ⟨t, ht⟩
    refine ⟨by rw [← hs, ← hw, ← ht]; simp, fun j hj => ?_⟩
    rw [Nat.zero_add, get_list, get_list, ← ht]
    simp only [List.getD_eq_getElem?_getD]
    rw [List.getElem?_append_left (by omega)]
  · intro h
    have hle := h.le
    refine List.prefix_iff_eq_take.2 (List.ext_getElem? (fun j => ?_))
    rw [List.getElem?_take]
    by_cases hj : j < w.size
    · rw [if_pos (by omega)]
      have := h.get j hj
      rw [Nat.zero_add, get_list, get_list] at this
      simp only [List.getD_eq_getElem?_getD] at this
      rw [List.getElem?_eq_getElem (by omega), List.getElem?_eq_getElem (by omega)] at this ⊢
      simp only [Option.getD_some] at this
      rw [this]
    · rw [if_neg (by omega), List.getElem?_eq_none (by omega)]
theorem best_ok (s : ByteArray) : ∀ (l : List ByteArray) (b : ByteArray), (bestL s l b = b ∨ (bestL s l b ∈ l ∧ Sub s 0 (bestL s l b))) ∧ b.size ≤ (bestL s l b).size ∧ ∀ w ∈ l, Sub s 0 w → w.size ≤ (bestL s l b).size
  | [], b => ⟨.inl rfl, Nat.le_refl _, fun w hw => absurd hw List.not_mem_nil⟩
  | x :: l, b => by
    simp only [bestL]
    by_cases hx : Lib.hasPrefix s.data.toList x.data.toList = true ∧ b.size < x.size
    · rw [if_pos hx]
      obtain ⟨h1, h2, h3⟩ := best_ok s l x
      refine ⟨.inr ?_, by omega, fun w hw hs => ?_⟩
      · rcases h1 with h1 | h1
        · rw [h1]; exact ⟨by simp, prefix_sub.1 hx.1⟩
        · exact ⟨List.mem_cons_of_mem _ h1.1, h1.2⟩
      · rcases List.mem_cons.1 hw with rfl | hw
        · exact h2
        · exact h3 w hw hs
    · rw [if_neg hx]
      obtain ⟨h1, h2, h3⟩ := best_ok s l b
      refine ⟨?_, h2, fun w hw hs => ?_⟩
      · rcases h1 with h1 | h1
        · exact .inl h1
        · exact .inr ⟨List.mem_cons_of_mem _ h1.1, h1.2⟩
      · rcases List.mem_cons.1 hw with rfl | hw
        · have : ¬ b.size < w.size := fun h => hx ⟨prefix_sub.2 hs, h⟩
          omega
        · exact h3 w hw hs
theorem sub_rest {T w : ByteArray} {p : Nat} (hp : p ≤ T.size) : Sub (T.extract p T.size) 0 w ↔ Sub T p w := by
  have hsz := extract_size T p T.size (Nat.le_refl _)
  constructor
  · intro h
    have hle := h.le
    refine ⟨by omega, fun j hj => ?_⟩
    have := h.get j hj
    rw [Nat.zero_add, extract_get _ _ _ _ (Nat.le_refl _) (by omega)] at this
    exact this
  · intro h
    have hle := h.le
    refine ⟨by omega, fun j hj => ?_⟩
    rw [Nat.zero_add, extract_get _ _ _ _ (Nat.le_refl _) (by omega)]
    exact h.get j hj
theorem mem_sg {w : ByteArray} (h : w ∈ sgL) : inSg w = true := by
  unfold inSg
  exact List.any_eq_true.2 ⟨w, h, by simp⟩
theorem mun_seq {T : ByteArray} (hT : ∀ j, j < T.size → SgB (T.get! j)) : ∀ (n p : Nat) (ws : List ByteArray), T.size ≤ p + n → p ≤ T.size → munF n (T.extract p T.size) = some ws → SgSeq T p ws
  | 0, p, ws, h1, h2, h => by
    have : p = T.size := by omega
    subst this
    simp only [munF, Option.some.injEq] at h
    rw [← h]; exact .nil
  | n + 1, p, ws, h1, h2, h => by
    have hsz := extract_size T p T.size (Nat.le_refl _)
    have hcln : ∀ i, i ≤ T.size → Cln T i := fun i hi => by
      by_cases h0 : i < T.size
      · have z := hT i h0
        exact .inl ⟨_, _, chAt_byte h0 z.hi (Nat.ne_of_gt z.lo)⟩
      · exact .inr (by omega)
    simp only [munF] at h
    by_cases h0 : (T.extract p T.size).size = 0
    · rw [if_pos h0] at h
      have : p = T.size := by omega
      subst this
      simp only [Option.some.injEq] at h
      rw [← h]; exact .nil
    · rw [if_neg h0] at h
      by_cases hr : Lib.hasPrefix (T.extract p T.size).data.toList sl2.data.toList = true ∨ Lib.hasPrefix (T.extract p T.size).data.toList slS.data.toList = true
      · rw [if_pos hr] at h; cases h
      · rw [if_neg hr] at h
        have B := best_ok (T.extract p T.size) sgL ⟨#[]⟩
        by_cases hb : (bestL (T.extract p T.size) sgL ⟨#[]⟩).size = 0
        · rw [if_pos hb] at h; cases h
        · rw [if_neg hb] at h
          generalize bestL (T.extract p T.size) sgL ⟨#[]⟩ = b at B hb h
          obtain ⟨B1, _, B3⟩ := B
          have B1 := B1.resolve_left (fun e => hb (by rw [e]; rfl))
          obtain ⟨ws', hws, rfl⟩ := Option.map_eq_some_iff.1 h
          have hS : Sub T p b := (sub_rest h2).1 B1.2
          have hle := hS.le
          have hex : (T.extract p T.size).extract b.size (T.extract p T.size).size = T.extract (p + b.size) T.size := by
            rw [hsz, ByteArray.extract_extract]
            congr 1
            omega
          rw [hex] at hws
          refine .cons (mem_sg B1.1) ⟨hS, fun w' hw' hs' => B3 w' (sg_mem hw') ((sub_rest h2).2 hs'), hcln _ hle, fun hh => hr (.inl (prefix_sub.2 ((sub_rest h2).2 hh))), fun hh => hr (.inr (prefix_sub.2 ((sub_rest h2).2 hh))), fun _ x hx => ?_, fun _ hc => hcln _ (by have := hc.lt; omega)⟩ (mun_seq hT n (p + b.size) ws' (by omega) hle hws)
          rcases hx.ch with hc | ⟨_, hc, _⟩
          · have hl := hc.lt
            have z := hT (p + 1) hl
            have hc2 := chAt_byte hl z.hi (Nat.ne_of_gt z.lo)
            rw [(hc.uniq hc2).1]
            have := z.dig
            unfold isDecimalF
            simp; omega
          · rw [hc]; decide
end Sc
end Go.Proofs.YtogkcphobhhbdaaDoor

/- spec.Munched walked. -/
namespace Go.Proofs.YtogkcphobhhbdaaDoor
open Go Go.RowKit Go.Lib
namespace Sc
open Ev
set_option maxRecDepth 100000
def sgT : ByteArray := ⟨#[60, 60, 61, 32, 62, 62, 61, 32, 38, 94, 61, 32, 46, 46, 46, 32, 60, 60, 32, 62, 62, 32, 38, 94, 32, 43, 61, 32, 45, 61, 32, 42, 61, 32, 47, 61, 32, 37, 61, 32, 38, 61, 32, 124, 61, 32, 94, 61, 32, 38, 38, 32, 124, 124, 32, 60, 45, 32, 43, 43, 32, 45, 45, 32, 61, 61, 32, 33, 61, 32, 60, 61, 32, 62, 61, 32, 58, 61, 32, 43, 32, 45, 32, 42, 32, 47, 32, 37, 32, 38, 32, 124, 32, 94, 32, 60, 32, 62, 32, 61, 32, 33, 32, 126, 32, 40, 32, 41, 32, 91, 32, 93, 32, 123, 32, 125, 32, 44, 32, 46, 32, 58]⟩
theorem sgT_words : wordsF sgT = sgL := by
  refine List.ext_getElem? (fun i => ?_)
  have h : (wordsF sgT).map (·.toList) = sgL.map (·.toList) := by kernel_rfl
  have hl : (wordsF sgT).length = sgL.length := by have := congrArg List.length h; simpa using this
  by_cases hi : i < sgL.length
  · have h1 : ((wordsF sgT).map (·.toList))[i]? = (sgL.map (·.toList))[i]? := by rw [h]
    rw [List.getElem?_map, List.getElem?_map, List.getElem?_eq_getElem hi, List.getElem?_eq_getElem (by omega)] at h1
    rw [List.getElem?_eq_getElem hi, List.getElem?_eq_getElem (by omega)]
    exact congrArg some (toList_inj (Option.some.inj h1))
  · rw [List.getElem?_eq_none (by omega), List.getElem?_eq_none (by omega)]
theorem sgL_len : sgL.length = 47 := rfl
theorem signs_walk (w : World) : Calls Tryd.prog 23 #[.string sgT] w fun e w' => ∃ g cap, e = .returned (.slice (some ⟨g, 0, none⟩) 47 cap) ∧
    w'.ownsRow w.heap.size 9 1 (.slice (some ⟨g, 0, none⟩) 47 cap) 47 (strs sgL) ∧ Below w.heap.size w w' := by
  have := words_walk w sgT (by decide)
  rw [sgT_words, sgL_len] at this
  exact this
theorem strs_get {l : List ByteArray} {i : Nat} {x : ByteArray} (h : l[i]? = some x) : (strs l)[i]? = some (.string x) := by
  unfold strs
  rw [List.getElem?_map, h]; rfl
/-- Known slots of a frame of 47. -/
structure SMo (v0 vo : Value) (a : Act) : Prop where
  defers : a.defers = []
  size : a.tmps.size = 47
  s0 : a.tmps[0]? = some v0
  s4 : a.tmps[4]? = some vo
theorem SMo.lit {v0 vo : Value} {a : Act} (h : SMo v0 vo a) : ∃ x : Nat → Value, a = { tmps := #[v0, x 1, x 2, x 3, vo, x 5, x 6, x 7, x 8, x 9, x 10, x 11, x 12, x 13, x 14, x 15, x 16, x 17, x 18, x 19, x 20, x 21, x 22, x 23, x 24, x 25, x 26, x 27, x 28, x 29, x 30, x 31, x 32, x 33, x 34, x 35, x 36, x 37, x 38, x 39, x 40, x 41, x 42, x 43, x 44, x 45, x 46], defers := [] } := by
  refine ⟨fun i => a.tmps.getD i undef, ?_⟩
  obtain ⟨t, d⟩ := a
  obtain ⟨h1, h2, k0, k4⟩ := h
  simp only at h1 h2 k0 k4
  subst h1
  have e0 : t.getD 0 undef = v0 := by rw [Array.getD_eq_getD_getElem?, k0]; rfl
  have e4 : t.getD 4 undef = vo := by rw [Array.getD_eq_getD_getElem?, k4]; rfl
  have ht := tmpsN 47 t h2
  rw [← e0, ← e4]
  exact congrArg (fun t => ({ tmps := t, defers := [] } : Act)) ht
theorem SMo.of {v0 vo : Value} (x : Nat → Value) : SMo v0 vo { tmps := #[v0, x 1, x 2, x 3, vo, x 5, x 6, x 7, x 8, x 9, x 10, x 11, x 12, x 13, x 14, x 15, x 16, x 17, x 18, x 19, x 20, x 21, x 22, x 23, x 24, x 25, x 26, x 27, x 28, x 29, x 30, x 31, x 32, x 33, x 34, x 35, x 36, x 37, x 38, x 39, x 40, x 41, x 42, x 43, x 44, x 45, x 46], defers := [] } := ⟨rfl, rfl, rfl, rfl⟩
/-- Known slots of a frame of 47. -/
structure SMi (v0 vo vb vr vn vj : Value) (a : Act) : Prop where
  defers : a.defers = []
  size : a.tmps.size = 47
  s0 : a.tmps[0]? = some v0
  s4 : a.tmps[4]? = some vo
  s5 : a.tmps[5]? = some vb
  s18 : a.tmps[18]? = some vr
  s19 : a.tmps[19]? = some vn
  s20 : a.tmps[20]? = some vj
theorem SMi.lit {v0 vo vb vr vn vj : Value} {a : Act} (h : SMi v0 vo vb vr vn vj a) : ∃ x : Nat → Value, a = { tmps := #[v0, x 1, x 2, x 3, vo, vb, x 6, x 7, x 8, x 9, x 10, x 11, x 12, x 13, x 14, x 15, x 16, x 17, vr, vn, vj, x 21, x 22, x 23, x 24, x 25, x 26, x 27, x 28, x 29, x 30, x 31, x 32, x 33, x 34, x 35, x 36, x 37, x 38, x 39, x 40, x 41, x 42, x 43, x 44, x 45, x 46], defers := [] } := by
  refine ⟨fun i => a.tmps.getD i undef, ?_⟩
  obtain ⟨t, d⟩ := a
  obtain ⟨h1, h2, k0, k4, k5, k18, k19, k20⟩ := h
  simp only at h1 h2 k0 k4 k5 k18 k19 k20
  subst h1
  have e0 : t.getD 0 undef = v0 := by rw [Array.getD_eq_getD_getElem?, k0]; rfl
  have e4 : t.getD 4 undef = vo := by rw [Array.getD_eq_getD_getElem?, k4]; rfl
  have e5 : t.getD 5 undef = vb := by rw [Array.getD_eq_getD_getElem?, k5]; rfl
  have e18 : t.getD 18 undef = vr := by rw [Array.getD_eq_getD_getElem?, k18]; rfl
  have e19 : t.getD 19 undef = vn := by rw [Array.getD_eq_getD_getElem?, k19]; rfl
  have e20 : t.getD 20 undef = vj := by rw [Array.getD_eq_getD_getElem?, k20]; rfl
  have ht := tmpsN 47 t h2
  rw [← e0, ← e4, ← e5, ← e18, ← e19, ← e20]
  exact congrArg (fun t => ({ tmps := t, defers := [] } : Act)) ht
theorem SMi.of {v0 vo vb vr vn vj : Value} (x : Nat → Value) : SMi v0 vo vb vr vn vj { tmps := #[v0, x 1, x 2, x 3, vo, vb, x 6, x 7, x 8, x 9, x 10, x 11, x 12, x 13, x 14, x 15, x 16, x 17, vr, vn, vj, x 21, x 22, x 23, x 24, x 25, x 26, x 27, x 28, x 29, x 30, x 31, x 32, x 33, x 34, x 35, x 36, x 37, x 38, x 39, x 40, x 41, x 42, x 43, x 44, x 45, x 46], defers := [] } := ⟨rfl, rfl, rfl, rfl, rfl, rfl, rfl, rfl⟩
noncomputable abbrev mdBody : Code := bodyOf Tryd.f24
noncomputable abbrev mdLoop : Code := loopOf (blkOf mdBody 0)
noncomputable abbrev mdIn : Code := loopOf (blkOf mdLoop 2)
noncomputable abbrev mdP (n : Nat) : Code := fstC (cutTail n mdBody)
theorem md_body : (Tryd.f24).body = some (.seq (mdP 0) (.seq (mdP 1) (.seq (.block 0 (.loop (setBlk 2 (.loop mdIn) mdLoop))) (cutTail 3 mdBody)))) := by kernel_rfl
theorem mi_out {w : World} {v0 vo vb vr : Value} {n : Nat} (a : Act) (hz : SMi v0 vo vb vr (.int .i64 n) (.int .i64 n) a) (Q : Exit → Act → World → Prop) (hQ : ∀ a', SMi v0 vo vb vr (.int .i64 n) (.int .i64 n) a' → Q (.exit 2) a' w) : mdIn.wp Tryd.prog Q a w := by
  obtain ⟨x, rfl⟩ := hz.lit
  clear hz
  have h1 : ¬ (n : Int) < (n : Int) := by omega
  simp only [mdIn, mdLoop, mdBody, bodyOf, Tryd.f24, Option.getD, blkOf, loopOf, cond, Nat.beq]
  go_wp2_with fail
  exact ⟨rfl, rfl, rfl, rfl, rfl, rfl, rfl, rfl⟩
set_option maxHeartbeats 1600000 in
theorem mi_round {w : World} {s b x : ByteArray} {vo : Value} {g cap n j : Nat} (hj : j < n) (hn : n ≤ 1000) (hc : w.cell? ⟨g, j, none⟩ = some (.string x)) (a : Act) (hz : SMi (.string s) vo (.string b) (.slice (some ⟨g, 0, none⟩) n cap) (.int .i64 n) (.int .i64 j) a) (Q : Exit → Act → World → Prop)
    (hQ : ∀ a', SMi (.string s) vo (.string (if Lib.hasPrefix s.data.toList x.data.toList = true ∧ b.size < x.size then x else b)) (.slice (some ⟨g, 0, none⟩) n cap) (.int .i64 n) (.int .i64 (j + 1 : Nat)) a' → Q .normal a' w) : mdIn.wp Tryd.prog Q a w := by
  obtain ⟨y, rfl⟩ := hz.lit
  clear hz
  have hw : IntKind.i64.wrap ((j : Int) + 1) = ((j + 1 : Nat) : Int) := by rw [show (j : Int) + 1 = ((j + 1 : Nat) : Int) by omega]; exact i64_small (by omega) (by omega)
  have k1 : (0 : Int) ≤ (j : Int) := by omega
  have k2 : (j : Int) < (n : Int) := by omega
  have hP := fun w => Tryd.strings_HasPrefix s x w
  generalize Lib.hasPrefix s.data.toList x.data.toList = p at hP hQ
  cases p with
  | false =>
    rw [if_neg (fun h => by cases h.1)] at hQ
    simp only [mdIn, mdLoop, mdBody, bodyOf, Tryd.f24, Option.getD, blkOf, loopOf, cond, Nat.beq]
    go_wp2_with (go_at_call 36; refine (hP _).mono ?_; rintro en w1 ⟨rfl, rfl⟩)
    exact ⟨rfl, rfl, rfl, rfl, rfl, rfl, rfl, rfl⟩
  | true =>
    by_cases hb : b.size < x.size
    · rw [if_pos ⟨rfl, hb⟩] at hQ
      have hb' : (b.size : Int) < (x.size : Int) := by omega
      simp only [mdIn, mdLoop, mdBody, bodyOf, Tryd.f24, Option.getD, blkOf, loopOf, cond, Nat.beq]
      go_wp2_with (go_at_call 36; refine (hP _).mono ?_; rintro en w1 ⟨rfl, rfl⟩)
      exact ⟨rfl, rfl, rfl, rfl, rfl, rfl, rfl, rfl⟩
    · rw [if_neg (fun h => hb h.2)] at hQ
      have hb' : ¬ (b.size : Int) < (x.size : Int) := by omega
      simp only [mdIn, mdLoop, mdBody, bodyOf, Tryd.f24, Option.getD, blkOf, loopOf, cond, Nat.beq]
      go_wp2_with (go_at_call 36; refine (hP _).mono ?_; rintro en w1 ⟨rfl, rfl⟩)
      exact ⟨rfl, rfl, rfl, rfl, rfl, rfl, rfl, rfl⟩
theorem mi_loop {w : World} {s : ByteArray} {vo : Value} {g cap n : Nat} {L : List ByteArray} (hL : L.length = n) (hn : n ≤ 1000) (hc : ∀ (j : Nat) x, L[j]? = some x → w.cell? ⟨g, j, none⟩ = some (.string x)) (Q : Exit → Act → World → Prop) : ∀ (d j : Nat) (b : ByteArray) (a : Act), j + d = n → SMi (.string s) vo (.string b) (.slice (some ⟨g, 0, none⟩) n cap) (.int .i64 n) (.int .i64 j) a →
      (∀ a', SMi (.string s) vo (.string (bestL s (L.drop j) b)) (.slice (some ⟨g, 0, none⟩) n cap) (.int .i64 n) (.int .i64 n) a' → Q .normal a' w) →
      Code.rounds Tryd.prog mdIn (Exit.inBlock 2 Q) (d + 1) a w
  | 0, j, b, a, hj, hz, hQ => by
    have : j = n := by omega
    subst this
    rw [rounds_succ]
    rw [List.drop_eq_nil_of_le (by omega)] at hQ
    exact mi_out a hz _ (fun a' z' => hQ a' z')
  | d + 1, j, b, a, hj, hz, hQ => by
    rw [rounds_succ]
    have hlt : j < L.length := by omega
    have hx : L[j]? = some L[j] := List.getElem?_eq_getElem hlt
    refine mi_round (by omega) hn (hc j _ hx) a hz _ (fun a' z' => ?_)
    rw [List.drop_eq_getElem_cons hlt] at hQ
    exact mi_loop hL hn hc Q d (j + 1) _ a' (by omega) z' hQ
end Sc
end Go.Proofs.YtogkcphobhhbdaaDoor

/- spec.Munched walked whole. -/
namespace Go.Proofs.YtogkcphobhhbdaaDoor
open Go Go.RowKit Go.Lib
namespace Sc
open Ev
set_option maxRecDepth 100000
theorem emp_iff' (s : ByteArray) : s.toList.isEmpty = decide (s.size = 0) := by
  by_cases h0 : s.size = 0
  · rw [decide_eq_true h0, ByteArray.toList_eq s]
    have hl : s.data.toList.length = s.size := size_toList s
    rw [List.isEmpty_iff]
    exact List.eq_nil_of_length_eq_zero (by omega)
  · rw [decide_eq_false h0, ByteArray.toList_eq s]
    have hl : s.data.toList.length = s.size := size_toList s
    cases hd : s.data.toList with
    | nil => rw [hd] at hl; simp at hl; omega
    | cons a t => rfl
theorem md_end {w : World} {s : ByteArray} {vo : Value} (h0 : s.size = 0) (L : Code) (a : Act) (hz : SMo (.string s) vo a) (Q : Exit → Act → World → Prop) (hQ : ∀ a', SMo (.string s) vo a' → Q (.exit 0) a' w) : (setBlk 2 L mdLoop).wp Tryd.prog Q a w := by
  obtain ⟨x, rfl⟩ := hz.lit
  clear hz
  have hE := emp_iff' s
  rw [decide_eq_true h0] at hE
  simp only [setBlk, mdLoop, mdBody, bodyOf, Tryd.f24, Option.getD, blkOf, loopOf, cond, Nat.beq]
  generalize ByteArray.mk (List.toArray (List.append _ _)) = S
  go_wp2_with fail
  exact ⟨rfl, rfl, rfl, rfl⟩
set_option maxHeartbeats 1600000 in
theorem md_no {w : World} {s : ByteArray} {vo : Value} (h0 : s.size ≠ 0) (hp : Lib.hasPrefix s.data.toList sl2.data.toList = true ∨ Lib.hasPrefix s.data.toList slS.data.toList = true) (L : Code) (a : Act) (hz : SMo (.string s) vo a) (Q : Exit → Act → World → Prop)
    (hQ : ∀ a', a'.defers = [] → a'.tmps[2]? = some (.slice none 0 0) → a'.tmps[3]? = some (.bool false) → Q .ret a' w) : (setBlk 2 L mdLoop).wp Tryd.prog Q a w := by
  obtain ⟨x, rfl⟩ := hz.lit
  clear hz
  have hE := emp_iff' s
  rw [decide_eq_false h0] at hE
  have hP1 := fun w => Tryd.strings_HasPrefix s sl2 w
  have hP2 := fun w => Tryd.strings_HasPrefix s slS w
  generalize Lib.hasPrefix s.data.toList sl2.data.toList = p1 at hP1 hp
  generalize Lib.hasPrefix s.data.toList slS.data.toList = p2 at hP2 hp
  unfold sl2 at hP1
  unfold slS at hP2
  simp only [setBlk, mdLoop, mdBody, bodyOf, Tryd.f24, Option.getD, blkOf, loopOf, cond, Nat.beq]
  generalize ByteArray.mk (List.toArray (List.append _ _)) = S
  cases p1 with
  | true =>
    go_wp2_with (go_at_call 36; refine (hP1 _).mono ?_; rintro en w1 ⟨rfl, rfl⟩)
    exact hQ _ rfl rfl rfl
  | false =>
    have hp2 : p2 = true := hp.resolve_left (by simp)
    subst hp2
    go_wp2_with (first
      | (go_at_call 36; with_reducible refine (hP1 _).mono ?_; rintro en w1 ⟨rfl, rfl⟩)
      | (go_at_call 36; with_reducible refine (hP2 _).mono ?_; rintro en w1 ⟨rfl, rfl⟩))
    exact hQ _ rfl rfl rfl
set_option maxHeartbeats 3200000 in
theorem md_go {w : World} {s : ByteArray} {vo : Value} {base n : Nat} {xs : List Value} (hs : s.size ≤ 1000) (h0 : s.size ≠ 0) (hp : ¬ (Lib.hasPrefix s.data.toList sl2.data.toList = true ∨ Lib.hasPrefix s.data.toList slS.data.toList = true)) (hown : w.ownsRow base 9 1 vo n xs) (hbase : base ≤ w.heap.size) (hn : n ≤ 100000)
    (L : Code) (a : Act) (hz : SMo (.string s) vo a) (Q : Exit → Act → World → Prop)
    (hL : ∀ a' w1 g cap Q', SMi (.string s) vo (.string ⟨#[]⟩) (.slice (some ⟨g, 0, none⟩) 47 cap) (.int .i64 (47 : Nat)) (.int .i64 (0 : Nat)) a' → w1.ownsRow w.heap.size 9 1 (.slice (some ⟨g, 0, none⟩) 47 cap) 47 (strs sgL) → Below w.heap.size w w1 →
      (∀ a'', SMi (.string s) vo (.string (bestL s sgL ⟨#[]⟩)) (.slice (some ⟨g, 0, none⟩) 47 cap) (.int .i64 (47 : Nat)) (.int .i64 (47 : Nat)) a'' → Q' .normal a'' w1) → L.wp Tryd.prog (Exit.inBlock 2 Q') a' w1)
    (hN : (bestL s sgL ⟨#[]⟩).size = 0 → ∀ a' w', a'.defers = [] → a'.tmps[2]? = some (.slice none 0 0) → a'.tmps[3]? = some (.bool false) → Below w.heap.size w w' → Q .ret a' w')
    (hQ : (bestL s sgL ⟨#[]⟩).size ≠ 0 → ∀ a' w' g cap, SMo (.string (s.extract (bestL s sgL ⟨#[]⟩).size s.size)) (.slice (some ⟨g, 0, none⟩) (n + 1) cap) a' → w'.ownsRow base 9 1 (.slice (some ⟨g, 0, none⟩) (n + 1) cap) (n + 1) (xs ++ [.string (bestL s sgL ⟨#[]⟩)]) → Below base w w' → Q .normal a' w') : (setBlk 2 L mdLoop).wp Tryd.prog Q a w := by
  obtain ⟨x, rfl⟩ := hz.lit
  clear hz
  have hE := emp_iff' s
  rw [decide_eq_false h0] at hE
  have hP1 := fun w => Tryd.strings_HasPrefix s sl2 w
  have hP2 := fun w => Tryd.strings_HasPrefix s slS w
  have hbs : (bestL s sgL ⟨#[]⟩).size ≤ s.size := by
    rcases (best_ok s sgL ⟨#[]⟩).1 with h | h
    · rw [h]; exact Nat.zero_le _
    · have := h.2.le; omega
  generalize Lib.hasPrefix s.data.toList sl2.data.toList = p1 at hP1 hp
  generalize Lib.hasPrefix s.data.toList slS.data.toList = p2 at hP2 hp
  have hp1 : p1 = false := by cases p1 with
    | false => rfl
    | true => exact absurd (.inl rfl) hp
  have hp2 : p2 = false := by cases p2 with
    | false => rfl
    | true => exact absurd (.inr rfl) hp
  subst hp1 hp2
  unfold sl2 at hP1
  unfold slS at hP2
  have hW' : ∀ w1, Below w.heap.size w w1 → w1.ownsRow base 9 1 vo n xs := fun w1 hB => own_below hB hown
  generalize bestL s sgL ⟨#[]⟩ = b at hL hN hQ hbs
  have hEb := emp_iff' b
  have k1 : (0 : Int) ≤ (b.size : Int) := by omega
  have k2 : (b.size : Int) ≤ (s.size : Int) := by omega
  simp only [setBlk, mdLoop, mdBody, bodyOf, Tryd.f24, Option.getD, blkOf, loopOf, cond, Nat.beq]
  generalize hS : ByteArray.mk (List.toArray (List.append _ _)) = S
  have hX : S.extract 1 S.size = sgT ∧ S.size = 123 := by
    subst hS
    exact ⟨toList_inj (by kernel_rfl), by kernel_rfl⟩
  have kS : (1 : Int) ≤ (S.size : Int) := by omega
  clear hS
  have hW := fun w => signs_walk w
  rw [← hX.1] at hW
  clear hX
  go_wp2_with (first
    | (go_at_call 36; with_reducible refine (hP1 _).mono ?_; rintro en w1 ⟨rfl, rfl⟩)
    | (go_at_call 36; with_reducible refine (hP2 _).mono ?_; rintro en w1 ⟨rfl, rfl⟩)
    | (go_at_call 23; refine (hW _).mono ?_; rintro en w2 ⟨g, cap, rfl, hrow, hB2⟩))
  refine hL _ w2 g cap _ ⟨rfl, rfl, rfl, rfl, rfl, rfl, rfl, rfl⟩ hrow hB2 (fun a'' z => ?_)
  obtain ⟨y, rfl⟩ := z.lit
  clear z hL
  simp only [Exit.then, Exit.inBlock]
  rename_i K hK
  refine hK _ _ ?_
  clear hK hrow
  have hown2 := hW' w2 hB2
  have hbase2 : base ≤ w2.heap.size := Nat.le_trans hbase hB2.size
  have hBase : Below base w1 w2 := below_weak hB2 hbase
  clear hown hW' hW hP1 hP2 hp
  by_cases hb0 : b.size = 0
  · rw [decide_eq_true hb0] at hEb
    have g1 := hN hb0
    clear hN hQ
    go_wp2_with fail
    exact g1 _ _ rfl rfl rfl hB2
  · rw [decide_eq_false hb0] at hEb
    have g1 := hQ hb0
    clear hN hQ
    go_wp2_with (at_builtin; refine st_app1 b hown2 hbase2 (by omega) (by rfl) _ _ (by rfl) (by rfl) (by rfl) ?_; intro g3 cap3 w3 hw3 hB3)
    exact g1 _ _ _ _ ⟨rfl, rfl, rfl, rfl⟩ hw3 (hBase.trans hB3)
theorem md_loop {w0 : World} {base : Nat} (hb0 : base ≤ w0.heap.size) (ws : Option (List ByteArray)) (Q : Exit → Act → World → Prop)
    (h1 : ws = none → ∀ a w, a.defers = [] → a.tmps[2]? = some (.slice none 0 0) → a.tmps[3]? = some (.bool false) → Below base w0 w → Q .ret a w)
    (h2 : ∀ l a w s vo n, ws = some l → SMo (.string s) vo a → w.ownsRow base 9 1 vo n (strs l) → n = l.length → Below base w0 w → Q .normal a w) :
    ∀ (d n : Nat) (s : ByteArray) (vo : Value) (l : List ByteArray) (a : Act) (w : World), s.size ≤ d → s.size ≤ 1000 → n + d ≤ 2000 → SMo (.string s) vo a → w.ownsRow base 9 1 vo n (strs l) → n = l.length → (munF d s).map (l ++ ·) = ws → Below base w0 w →
      Code.rounds Tryd.prog (setBlk 2 (.loop mdIn) mdLoop) (Exit.inBlock 0 Q) (d + 1) a w
  | 0, n, s, vo, l, a, w, hd, hs, hn, hz, hown, hl, hm, hB => by
    rw [rounds_succ]
    have e : ws = some l := by rw [← hm]; simp [munF]
    exact md_end (by omega) _ a hz _ (fun a' z' => h2 l a' w s vo n e z' hown hl hB)
  | d + 1, n, s, vo, l, a, w, hd, hs, hn, hz, hown, hl, hm, hB => by
    rw [rounds_succ]
    have hbw : base ≤ w.heap.size := Nat.le_trans hb0 hB.size
    simp only [munF] at hm
    by_cases h0 : s.size = 0
    · rw [if_pos h0] at hm
      have e : ws = some l := by rw [← hm]; simp
      exact md_end h0 _ a hz _ (fun a' z' => h2 l a' w s vo n e z' hown hl hB)
    · rw [if_neg h0] at hm
      by_cases hp : Lib.hasPrefix s.data.toList sl2.data.toList = true ∨ Lib.hasPrefix s.data.toList slS.data.toList = true
      · rw [if_pos hp] at hm
        have e : ws = none := by rw [← hm]; rfl
        exact md_no h0 hp _ a hz _ (fun a' d0 d2 d3 => h1 e a' w d0 d2 d3 hB)
      · rw [if_neg hp] at hm
        refine md_go hs h0 hp hown hbw (by omega) _ a hz _ (fun a1 w1 g cap Q' z1 hr1 b1 k1 => ?_) (fun hb a1 w1 d0 d2 d3 b1 => ?_) (fun hb a1 w1 g cap z1 o1 b1 => ?_)
        · refine wp_loop_rounds (47 + 1) ?_
          refine mi_loop (L := sgL) rfl (by decide) (fun j x hx => own_row_cell hr1 (strs_get hx)) _ 47 0 ⟨#[]⟩ a1 (by decide) z1 (fun a2 z2 => ?_)
          exact k1 a2 z2
        · rw [if_pos hb] at hm
          have e : ws = none := by rw [← hm]; rfl
          exact h1 e a1 w1 d0 d2 d3 (hB.trans (below_weak b1 hbw))
        · rw [if_neg hb] at hm
          have hbs : (bestL s sgL ⟨#[]⟩).size ≤ s.size := by
            rcases (best_ok s sgL ⟨#[]⟩).1 with h | h
            · rw [h]; exact Nat.zero_le _
            · have := h.2.le; omega
          have hsz := extract_size s (bestL s sgL ⟨#[]⟩).size s.size (Nat.le_refl _)
          refine md_loop hb0 ws Q h1 h2 d (n + 1) (s.extract (bestL s sgL ⟨#[]⟩).size s.size) _ (l ++ [bestL s sgL ⟨#[]⟩]) a1 w1 (by omega) (by omega) (by omega) z1 ?_ (by simp [hl]) ?_ (hB.trans b1)
          · have es : strs (l ++ [bestL s sgL ⟨#[]⟩]) = strs l ++ [.string (bestL s sgL ⟨#[]⟩)] := by unfold strs; simp
            rw [es]; exact o1
          · rw [← hm]
            cases munF d (s.extract (bestL s sgL ⟨#[]⟩).size s.size) with
            | none => rfl
            | some t => simp
theorem md_first {w : World} {s : ByteArray} (B C : Code) (Q : Exit → Act → World → Prop)
    (hQ : ∀ a, SMo (.string s) (.slice (some ⟨w.heap.size, 0, none⟩) 0 0) a → B.wp Tryd.prog (Exit.then (fun a w => C.wp Tryd.prog Q a w) Q) a (w.alloc (.cells #[] 9))) :
    (Code.seq (mdP 0) (.seq (mdP 1) (.seq B C))).wp Tryd.prog Q { tmps := #[.string s] ++ Array.replicate 46 undef, defers := [] } w := by
  simp only [mdP, fstC, mdBody, bodyOf, Tryd.f24, Option.getD, cutTail, cutN, Option.map, Array.replicate_succ, Array.replicate_zero, List.push_toArray, List.append_toArray, List.nil_append, List.cons_append]
  go_wp2_with fail
  first
    | exact hQ _ ⟨rfl, rfl, rfl, rfl⟩
    | (rename_i K hK
       refine Code.wp_mono (fun e a w h => ?_) (hQ _ ⟨rfl, rfl, rfl, rfl⟩)
       cases e <;> first | exact hK _ _ h | exact h)
theorem md_last {w : World} {v0 vo : Value} (a : Act) (hz : SMo v0 vo a) (Q : Exit → Act → World → Prop)
    (hQ : ∀ a', a'.defers = [] → a'.tmps[2]? = some vo → a'.tmps[3]? = some (.bool true) → Q .ret a' w) : (cutTail 3 mdBody).wp Tryd.prog Q a w := by
  obtain ⟨x, rfl⟩ := hz.lit
  clear hz
  simp only [mdBody, bodyOf, Tryd.f24, Option.getD, cutTail, cutN, Option.map]
  go_wp2_with fail
  exact hQ _ rfl rfl rfl
theorem md_res {a : Act} {w : World} {v ve : Value} (h4 : a.tmps[2]? = some v) (h5 : a.tmps[3]? = some ve) : (results Tryd.f24 a.tmps).run Tryd.prog w = .ok (.tuple #[v, ve]) w := by
  have e : (Tryd.f24).results = #[.tmp 2, .tmp 3] := by kernel_rfl
  simp [results, e, h4, h5, go_sem]
theorem munched_walk (w : World) (s : ByteArray) (hs : s.size ≤ 1000) : Calls Tryd.prog 24 #[.string s] w fun e w' => Below w.heap.size w w' ∧
    ((munF s.size s = none ∧ e = .returned (.tuple #[.slice none 0 0, .bool false])) ∨ ∃ l v, munF s.size s = some l ∧ e = .returned (.tuple #[v, .bool true]) ∧ w'.ownsRow w.heap.size 9 1 v l.length (strs l)) := by
  refine calls_of_wp Tryd.func24 md_body ?_
  have hnt : (Tryd.f24).ntmps - (#[.string s] : Array Value).size = 46 := by kernel_rfl
  rw [hnt]
  have hB0 : Below w.heap.size w (w.alloc (.cells #[] 9)) := Below.alloc (Below.refl _ _) (Nat.le_refl _) _
  refine md_first _ _ _ (fun a z => ?_)
  refine wp_block (wp_loop_rounds (s.size + 1) ?_)
  refine md_loop (w0 := w) (base := w.heap.size) (Nat.le_refl _) (munF s.size s) _ (fun e a2 w2 d0 d2 d3 b2 => ?_) (fun l a2 w2 s2 vo n e z2 o2 hn b2 => ?_) s.size 0 s _ [] a _ (Nat.le_refl _) hs (by omega) z (own_nostr w) rfl (by cases munF s.size s <;> rfl) hB0
  · exact ⟨d0, _, md_res d2 d3, b2, .inl ⟨e, rfl⟩⟩
  · show (cutTail 3 mdBody).wp _ _ a2 w2
    refine md_last a2 z2 _ (fun a3 d0 d2 d3 => ?_)
    rw [hn] at o2
    exact ⟨d0, _, md_res d2 d3, b2, .inr ⟨l, vo, e, rfl, o2⟩⟩
end Sc
end Go.Proofs.YtogkcphobhhbdaaDoor

/- Plain: what one text is told as, by running it. -/
namespace Go.Proofs.YtogkcphobhhbdaaDoor
open Go Go.RowKit Go.Lib
namespace Sc
open Ev
set_option maxRecDepth 100000
def likeB (s : St) (t : WTok) : Bool :=
  decide ((toldF (tokWord s.tok.toNat) s.lit (opStr s.op)).1 = t.cls) && decide ((toldF (tokWord s.tok.toNat) s.lit (opStr s.op)).2.toList = t.text.toList) && (!decide (t.cls = 2) || (decide (wrap64 s.kind = t.kind) && !s.bad))
def likeAllB : List St → List WTok → Bool
  | [], [] => true
  | s :: L, t :: W => likeB s t && likeAllB L W
  | _, _ => false
theorem like_of {s : St} {t : WTok} (h : likeB s t = true) : Like s t := by
  unfold likeB at h
  simp only [Bool.and_eq_true, Bool.or_eq_true, Bool.not_eq_true', decide_eq_true_eq, decide_eq_false_iff_not] at h
  obtain ⟨⟨h1, h2⟩, h3⟩ := h
  exact ⟨Prod.ext h1 (toList_inj h2), fun hc => h3.resolve_left (fun hn => hn hc)⟩
theorem likeAll_of : ∀ {L : List St} {W : List WTok}, likeAllB L W = true → LikeAll L W
  | [], [], _ => likeAll_nil
  | s :: L, t :: W, h => by
    simp only [likeAllB, Bool.and_eq_true] at h
    exact likeAll_cons (like_of h.1) (likeAll_of h.2)
  | [], t :: W, h => by cases h
  | s :: L, [], h => by cases h
def abB : ByteArray := ⟨#[97, 43, 98]⟩
def abW : List WTok := [nameW ⟨#[97]⟩, signW ⟨#[43]⟩, nameW ⟨#[98]⟩]
theorem ab_law : LikeAll (Sc.toks abB 0) (closedF abW (nameW ⟨#[98]⟩)) ∧ (last abB 0).notes = [] :=
  ⟨likeAll_of (by kernel_rfl), List.isEmpty_iff.1 (by kernel_rfl)⟩
end Sc
end Go.Proofs.YtogkcphobhhbdaaDoor

/- laws.FnGlued walked. -/
namespace Go.Proofs.YtogkcphobhhbdaaDoor
open Go Go.RowKit Go.Lib
namespace Sc
open Ev
set_option maxRecDepth 100000
/-- Known slots of a frame of 79. -/
structure SGa (vt : Value) (a : Act) : Prop where
  defers : a.defers = []
  size : a.tmps.size = 79
  s11 : a.tmps[11]? = some vt
theorem SGa.lit {vt : Value} {a : Act} (h : SGa vt a) : ∃ x : Nat → Value, a = { tmps := #[x 0, x 1, x 2, x 3, x 4, x 5, x 6, x 7, x 8, x 9, x 10, vt, x 12, x 13, x 14, x 15, x 16, x 17, x 18, x 19, x 20, x 21, x 22, x 23, x 24, x 25, x 26, x 27, x 28, x 29, x 30, x 31, x 32, x 33, x 34, x 35, x 36, x 37, x 38, x 39, x 40, x 41, x 42, x 43, x 44, x 45, x 46, x 47, x 48, x 49, x 50, x 51, x 52, x 53, x 54, x 55, x 56, x 57, x 58, x 59, x 60, x 61, x 62, x 63, x 64, x 65, x 66, x 67, x 68, x 69, x 70, x 71, x 72, x 73, x 74, x 75, x 76, x 77, x 78], defers := [] } := by
  refine ⟨fun i => a.tmps.getD i undef, ?_⟩
  obtain ⟨t, d⟩ := a
  obtain ⟨h1, h2, k11⟩ := h
  simp only at h1 h2 k11
  subst h1
  have e11 : t.getD 11 undef = vt := by rw [Array.getD_eq_getD_getElem?, k11]; rfl
  have ht := tmpsN 79 t h2
  rw [← e11]
  exact congrArg (fun t => ({ tmps := t, defers := [] } : Act)) ht
theorem SGa.of {vt : Value} (x : Nat → Value) : SGa vt { tmps := #[x 0, x 1, x 2, x 3, x 4, x 5, x 6, x 7, x 8, x 9, x 10, vt, x 12, x 13, x 14, x 15, x 16, x 17, x 18, x 19, x 20, x 21, x 22, x 23, x 24, x 25, x 26, x 27, x 28, x 29, x 30, x 31, x 32, x 33, x 34, x 35, x 36, x 37, x 38, x 39, x 40, x 41, x 42, x 43, x 44, x 45, x 46, x 47, x 48, x 49, x 50, x 51, x 52, x 53, x 54, x 55, x 56, x 57, x 58, x 59, x 60, x 61, x 62, x 63, x 64, x 65, x 66, x 67, x 68, x 69, x 70, x 71, x 72, x 73, x 74, x 75, x 76, x 77, x 78], defers := [] } := ⟨rfl, rfl, rfl⟩
/-- Known slots of a frame of 79. -/
structure SGb (vt vo vr vn vj : Value) (a : Act) : Prop where
  defers : a.defers = []
  size : a.tmps.size = 79
  s11 : a.tmps[11]? = some vt
  s14 : a.tmps[14]? = some vo
  s63 : a.tmps[63]? = some vr
  s64 : a.tmps[64]? = some vn
  s65 : a.tmps[65]? = some vj
theorem SGb.lit {vt vo vr vn vj : Value} {a : Act} (h : SGb vt vo vr vn vj a) : ∃ x : Nat → Value, a = { tmps := #[x 0, x 1, x 2, x 3, x 4, x 5, x 6, x 7, x 8, x 9, x 10, vt, x 12, x 13, vo, x 15, x 16, x 17, x 18, x 19, x 20, x 21, x 22, x 23, x 24, x 25, x 26, x 27, x 28, x 29, x 30, x 31, x 32, x 33, x 34, x 35, x 36, x 37, x 38, x 39, x 40, x 41, x 42, x 43, x 44, x 45, x 46, x 47, x 48, x 49, x 50, x 51, x 52, x 53, x 54, x 55, x 56, x 57, x 58, x 59, x 60, x 61, x 62, vr, vn, vj, x 66, x 67, x 68, x 69, x 70, x 71, x 72, x 73, x 74, x 75, x 76, x 77, x 78], defers := [] } := by
  refine ⟨fun i => a.tmps.getD i undef, ?_⟩
  obtain ⟨t, d⟩ := a
  obtain ⟨h1, h2, k11, k14, k63, k64, k65⟩ := h
  simp only at h1 h2 k11 k14 k63 k64 k65
  subst h1
  have e11 : t.getD 11 undef = vt := by rw [Array.getD_eq_getD_getElem?, k11]; rfl
  have e14 : t.getD 14 undef = vo := by rw [Array.getD_eq_getD_getElem?, k14]; rfl
  have e63 : t.getD 63 undef = vr := by rw [Array.getD_eq_getD_getElem?, k63]; rfl
  have e64 : t.getD 64 undef = vn := by rw [Array.getD_eq_getD_getElem?, k64]; rfl
  have e65 : t.getD 65 undef = vj := by rw [Array.getD_eq_getD_getElem?, k65]; rfl
  have ht := tmpsN 79 t h2
  rw [← e11, ← e14, ← e63, ← e64, ← e65]
  exact congrArg (fun t => ({ tmps := t, defers := [] } : Act)) ht
theorem SGb.of {vt vo vr vn vj : Value} (x : Nat → Value) : SGb vt vo vr vn vj { tmps := #[x 0, x 1, x 2, x 3, x 4, x 5, x 6, x 7, x 8, x 9, x 10, vt, x 12, x 13, vo, x 15, x 16, x 17, x 18, x 19, x 20, x 21, x 22, x 23, x 24, x 25, x 26, x 27, x 28, x 29, x 30, x 31, x 32, x 33, x 34, x 35, x 36, x 37, x 38, x 39, x 40, x 41, x 42, x 43, x 44, x 45, x 46, x 47, x 48, x 49, x 50, x 51, x 52, x 53, x 54, x 55, x 56, x 57, x 58, x 59, x 60, x 61, x 62, vr, vn, vj, x 66, x 67, x 68, x 69, x 70, x 71, x 72, x 73, x 74, x 75, x 76, x 77, x 78], defers := [] } := ⟨rfl, rfl, rfl, rfl, rfl, rfl, rfl⟩
/-- Known slots of a frame of 79. -/
structure SGm (v3 : Value) (a : Act) : Prop where
  defers : a.defers = []
  size : a.tmps.size = 79
  s13 : a.tmps[13]? = some v3
theorem SGm.lit {v3 : Value} {a : Act} (h : SGm v3 a) : ∃ x : Nat → Value, a = { tmps := #[x 0, x 1, x 2, x 3, x 4, x 5, x 6, x 7, x 8, x 9, x 10, x 11, x 12, v3, x 14, x 15, x 16, x 17, x 18, x 19, x 20, x 21, x 22, x 23, x 24, x 25, x 26, x 27, x 28, x 29, x 30, x 31, x 32, x 33, x 34, x 35, x 36, x 37, x 38, x 39, x 40, x 41, x 42, x 43, x 44, x 45, x 46, x 47, x 48, x 49, x 50, x 51, x 52, x 53, x 54, x 55, x 56, x 57, x 58, x 59, x 60, x 61, x 62, x 63, x 64, x 65, x 66, x 67, x 68, x 69, x 70, x 71, x 72, x 73, x 74, x 75, x 76, x 77, x 78], defers := [] } := by
  refine ⟨fun i => a.tmps.getD i undef, ?_⟩
  obtain ⟨t, d⟩ := a
  obtain ⟨h1, h2, k13⟩ := h
  simp only at h1 h2 k13
  subst h1
  have e13 : t.getD 13 undef = v3 := by rw [Array.getD_eq_getD_getElem?, k13]; rfl
  have ht := tmpsN 79 t h2
  rw [← e13]
  exact congrArg (fun t => ({ tmps := t, defers := [] } : Act)) ht
theorem SGm.of {v3 : Value} (x : Nat → Value) : SGm v3 { tmps := #[x 0, x 1, x 2, x 3, x 4, x 5, x 6, x 7, x 8, x 9, x 10, x 11, x 12, v3, x 14, x 15, x 16, x 17, x 18, x 19, x 20, x 21, x 22, x 23, x 24, x 25, x 26, x 27, x 28, x 29, x 30, x 31, x 32, x 33, x 34, x 35, x 36, x 37, x 38, x 39, x 40, x 41, x 42, x 43, x 44, x 45, x 46, x 47, x 48, x 49, x 50, x 51, x 52, x 53, x 54, x 55, x 56, x 57, x 58, x 59, x 60, x 61, x 62, x 63, x 64, x 65, x 66, x 67, x 68, x 69, x 70, x 71, x 72, x 73, x 74, x 75, x 76, x 77, x 78], defers := [] } := ⟨rfl, rfl, rfl⟩
abbrev SGn (a : Act) : Prop := SGm (.bool false) a
/-- Known slots of a frame of 79. -/
structure SGt (vt vl v3 : Value) (a : Act) : Prop where
  defers : a.defers = []
  size : a.tmps.size = 79
  s11 : a.tmps[11]? = some vt
  s12 : a.tmps[12]? = some vl
  s13 : a.tmps[13]? = some v3
theorem SGt.lit {vt vl v3 : Value} {a : Act} (h : SGt vt vl v3 a) : ∃ x : Nat → Value, a = { tmps := #[x 0, x 1, x 2, x 3, x 4, x 5, x 6, x 7, x 8, x 9, x 10, vt, vl, v3, x 14, x 15, x 16, x 17, x 18, x 19, x 20, x 21, x 22, x 23, x 24, x 25, x 26, x 27, x 28, x 29, x 30, x 31, x 32, x 33, x 34, x 35, x 36, x 37, x 38, x 39, x 40, x 41, x 42, x 43, x 44, x 45, x 46, x 47, x 48, x 49, x 50, x 51, x 52, x 53, x 54, x 55, x 56, x 57, x 58, x 59, x 60, x 61, x 62, x 63, x 64, x 65, x 66, x 67, x 68, x 69, x 70, x 71, x 72, x 73, x 74, x 75, x 76, x 77, x 78], defers := [] } := by
  refine ⟨fun i => a.tmps.getD i undef, ?_⟩
  obtain ⟨t, d⟩ := a
  obtain ⟨h1, h2, k11, k12, k13⟩ := h
  simp only at h1 h2 k11 k12 k13
  subst h1
  have e11 : t.getD 11 undef = vt := by rw [Array.getD_eq_getD_getElem?, k11]; rfl
  have e12 : t.getD 12 undef = vl := by rw [Array.getD_eq_getD_getElem?, k12]; rfl
  have e13 : t.getD 13 undef = v3 := by rw [Array.getD_eq_getD_getElem?, k13]; rfl
  have ht := tmpsN 79 t h2
  rw [← e11, ← e12, ← e13]
  exact congrArg (fun t => ({ tmps := t, defers := [] } : Act)) ht
theorem SGt.of {vt vl v3 : Value} (x : Nat → Value) : SGt vt vl v3 { tmps := #[x 0, x 1, x 2, x 3, x 4, x 5, x 6, x 7, x 8, x 9, x 10, vt, vl, v3, x 14, x 15, x 16, x 17, x 18, x 19, x 20, x 21, x 22, x 23, x 24, x 25, x 26, x 27, x 28, x 29, x 30, x 31, x 32, x 33, x 34, x 35, x 36, x 37, x 38, x 39, x 40, x 41, x 42, x 43, x 44, x 45, x 46, x 47, x 48, x 49, x 50, x 51, x 52, x 53, x 54, x 55, x 56, x 57, x 58, x 59, x 60, x 61, x 62, x 63, x 64, x 65, x 66, x 67, x 68, x 69, x 70, x 71, x 72, x 73, x 74, x 75, x 76, x 77, x 78], defers := [] } := ⟨rfl, rfl, rfl, rfl, rfl⟩
abbrev SGs (vt vl : Value) (a : Act) : Prop := SGt vt vl (.bool true) a
noncomputable abbrev fgBody : Code := bodyOf Tryd.f6
noncomputable abbrev fgP (n : Nat) : Code := fstC (cutTail n fgBody)
noncomputable abbrev fgLoop : Code := loopOf (blkOf (fgP 7) 0)
theorem fg_body : (Tryd.f6).body = some (.seq (fgP 0) (.seq (fgP 1) (.seq (fgP 2) (.seq (fgP 3) (.seq (fgP 4) (.seq (fgP 5) (.seq (fgP 6) (.seq (.seq (fstC (fgP 7)) (.block 0 (.loop fgLoop))) (cutTail 8 fgBody))))))))) := by kernel_rfl
def glueT (p q r s : Nat) : ByteArray := sgL.getD p ⟨#[]⟩ ++ sgL.getD q ⟨#[]⟩ ++ sgL.getD r ⟨#[]⟩ ++ sgL.getD s ⟨#[]⟩
theorem sgL_at {p : Nat} (h : p < 47) : sgL[p]? = some (sgL.getD p ⟨#[]⟩) := by
  rw [List.getD_eq_getElem?_getD, List.getElem?_eq_getElem (show p < sgL.length from h)]; rfl
theorem sg_len3 {p : Nat} (h : p < 47) : (sgL.getD p ⟨#[]⟩).size ≤ 3 := by
  have h0 : (sgL.all fun w => decide (w.size ≤ 3)) = true := by kernel_rfl
  have := List.all_eq_true.1 h0 _ (List.mem_of_getElem? (sgL_at h))
  simpa using this
set_option maxHeartbeats 3200000 in
theorem fg_first {w : World} {p q r s : Int} {mp mq mr ms : Nat} (hp : p.tmod 47 = mp) (hq : q.tmod 47 = mq) (hr : r.tmod 47 = mr) (hs : s.tmod 47 = ms) (lp : mp < 47) (lq : mq < 47) (lr : mr < 47) (ls : ms < 47) (B : Code) (Q : Exit → Act → World → Prop)
    (hQ : ∀ a w', SGa (.string (glueT mp mq mr ms)) a → Below w.heap.size w w' → B.wp Tryd.prog Q a w') :
    (Code.seq (fgP 0) (.seq (fgP 1) (.seq (fgP 2) (.seq (fgP 3) B)))).wp Tryd.prog Q { tmps := #[.int .u8 p, .int .u8 q, .int .u8 r, .int .u8 s] ++ Array.replicate 75 undef, defers := [] } w := by
  have kp1 : (0 : Int) ≤ (mp : Int) := by omega
  have kp2 : (mp : Int) < 47 := by omega
  have kq1 : (0 : Int) ≤ (mq : Int) := by omega
  have kq2 : (mq : Int) < 47 := by omega
  have kr1 : (0 : Int) ≤ (mr : Int) := by omega
  have kr2 : (mr : Int) < 47 := by omega
  have ks1 : (0 : Int) ≤ (ms : Int) := by omega
  have ks2 : (ms : Int) < 47 := by omega
  simp only [fgP, fstC, fgBody, bodyOf, Tryd.f6, Option.getD, cutTail, cutN, Option.map, Array.replicate_succ, Array.replicate_zero, List.push_toArray, List.append_toArray, List.nil_append, List.cons_append]
  generalize hS : ByteArray.mk (List.toArray (List.append _ _)) = S
  have hX : S.extract 1 S.size = sgT ∧ S.size = 123 := by
    subst hS
    exact ⟨toList_inj (by kernel_rfl), by kernel_rfl⟩
  have kS : (1 : Int) ≤ (S.size : Int) := by omega
  clear hS
  have hW := fun w => signs_walk w
  rw [← hX.1] at hW
  clear hX
  go_wp2_with (go_at_call 23; refine (hW _).mono ?_; rintro en w2 ⟨g, cap, rfl, hrow, hB2⟩; have c1 := own_row_cell hrow (strs_get (sgL_at lp)); have c2 := own_row_cell hrow (strs_get (sgL_at lq)); have c3 := own_row_cell hrow (strs_get (sgL_at lr)); have c4 := own_row_cell hrow (strs_get (sgL_at ls)))
  clear hW hrow
  unfold glueT at hQ
  have z1 := sg_len3 lp
  have z2 := sg_len3 lq
  have z3 := sg_len3 lr
  have z4 := sg_len3 ls
  generalize sgL.getD mp ⟨#[]⟩ = x1 at *
  generalize sgL.getD mq ⟨#[]⟩ = x2 at *
  generalize sgL.getD mr ⟨#[]⟩ = x3 at *
  generalize sgL.getD ms ⟨#[]⟩ = x4 at *
  all_goals try (go_quiet (fail))
  all_goals go_wp2_with fail
  exact hQ _ _ ⟨rfl, rfl, rfl⟩ (hB2.trans (below_drewN _ _ _))
/-- A row of three tokens that are wanted, just made. -/
theorem own_ab (w : World) : (w.alloc (.cells (flat wCells abW).toArray 37)).ownsRow w.heap.size 37 5 (.slice (some ⟨w.heap.size, 0, none⟩) abW.length 3) abW.length (flat wCells abW) :=
  ⟨rfl, .inr ⟨w.heap.size, 3, (flat wCells abW).toArray, rfl, Nat.le_refl _, heap_alloc_new w _, Nat.le_refl _, by decide, rfl, by simp [flat, wCells, abW, List.flatMap]⟩⟩
theorem closed_ab_walk (w : World) : Calls Tryd.prog 22 #[.slice (some ⟨w.heap.size, 0, none⟩) 3 3] (w.alloc (.cells (flat wCells abW).toArray 37)) fun en w' => ∃ g cap b, en = .returned (.slice (some ⟨g, 0, none⟩) (closedF abW (nameW ⟨#[98]⟩)).length cap) ∧
      w'.ownsRow b 37 5 (.slice (some ⟨g, 0, none⟩) (closedF abW (nameW ⟨#[98]⟩)).length cap) (closedF abW (nameW ⟨#[98]⟩)).length (flat wCells (closedF abW (nameW ⟨#[98]⟩))) ∧ Below w.heap.size w w' := by
  refine (closed_walk (W := abW) (t := nameW ⟨#[98]⟩) (j := 2) (own_ab w) rfl (by decide) rfl).mono ?_
  rintro en w' ⟨g, cap, rfl, h1, h2⟩
  exact ⟨g, cap, _, rfl, h1, below_old h2⟩
set_option maxHeartbeats 1600000 in
theorem fg_mun {w : World} {T : ByteArray} {o : Option (List ByteArray)} (ho : munF T.size T = o) (hT : T.size ≤ 100) (a : Act) (hz : SGa (.string T) a) (B : Code) (Q : Exit → Act → World → Prop)
    (hN : o = none → ∀ a w', SGn a → Below w.heap.size w w' → B.wp Tryd.prog Q a w')
    (hS : ∀ l, o = some l → ∀ a v w', SGs (.string T) v a → w'.ownsRow w.heap.size 9 1 v l.length (strs l) → Below w.heap.size w w' → B.wp Tryd.prog Q a w') : (Code.seq (fgP 4) B).wp Tryd.prog Q a w := by
  obtain ⟨x, rfl⟩ := hz.lit
  clear hz
  have hM := munched_walk w T (by omega)
  rw [ho] at hM
  clear ho
  simp only [fgP, fstC, fgBody, bodyOf, Tryd.f6, Option.getD, cutTail, cutN, Option.map]
  cases o with
  | none =>
    have hM : Calls Tryd.prog 24 #[.string T] w fun e w' => e = .returned (.tuple #[.slice none 0 0, .bool false]) ∧ Below w.heap.size w w' := hM.mono (fun e w' ⟨h1, h2⟩ => ⟨h2.elim (fun h => h.2) (fun ⟨l, v, h, _⟩ => by cases h), h1⟩)
    go_wp2_with (go_at_call 24; refine hM.mono ?_; rintro en w2 ⟨rfl, hB2⟩)
    exact (hN (by trivial)) _ _ ⟨rfl, rfl, rfl⟩ hB2
  | some l =>
    have hM : Calls Tryd.prog 24 #[.string T] w fun e w' => ∃ v, e = .returned (.tuple #[v, .bool true]) ∧ w'.ownsRow w.heap.size 9 1 v l.length (strs l) ∧ Below w.heap.size w w' := hM.mono (fun e w' ⟨h1, h2⟩ => h2.elim (fun h => by cases h.1) (fun ⟨l', v, h, h3, h4⟩ => by cases h; exact ⟨v, h3, h4, h1⟩))
    go_wp2_with (go_at_call 24; refine hM.mono ?_; rintro en w2 ⟨v, rfl, hr, hB2⟩)
    exact hS _ (by first | rfl | trivial) _ _ _ ⟨rfl, rfl, rfl, rfl, rfl⟩ hr hB2
set_option maxHeartbeats 1600000 in
theorem fg_no {w : World} {ea : Addr} (hG : Glob w ea) (a : Act) (hz : SGn a) (B : Code) (Q : Exit → Act → World → Prop)
    (hQ : ∀ a' w', a'.defers = [] → a'.tmps[8]? = some (.bool true) → Below w.heap.size w w' → Q .ret a' w') : (Code.seq (fgP 5) B).wp Tryd.prog Q a w := by
  obtain ⟨x, rfl⟩ := hz.lit
  clear hz
  obtain ⟨hA, h0⟩ := ab_law
  have hC := fun w => closed_ab_walk w
  have hTo := fun w gw capw b1 hG => toldL_walk (w := w) (ea := ea) (gw := gw) (capw := capw) (b1 := b1) hG (by decide : abB.size ≤ 2048) hA h0
  clear hA h0
  generalize closedF abW (nameW ⟨#[98]⟩) = W at hC hTo
  unfold abB at hTo
  have e : flat wCells abW = [.int .i64 1, .string ⟨#[97]⟩, .int .i64 0, .int .i64 0, .int .i64 0, .int .i64 3, .string ⟨#[43]⟩, .int .i64 0, .int .i64 0, .int .i64 0, .int .i64 1, .string ⟨#[98]⟩, .int .i64 0, .int .i64 0, .int .i64 0] := by kernel_rfl
  rw [e] at hC
  clear e
  simp only [fgP, fstC, fgBody, bodyOf, Tryd.f6, Option.getD, cutTail, cutN, Option.map]
  go_wp2_with (first
      | (go_at_call 21; refine (hTo _ _ _ _ (glob_move hG hB4) hrow4).mono ?_; rintro en w5 ⟨rfl, hB5⟩; have hB5 := below_up hB4 hB5)
      | (go_at_call 22; refine (hC _).mono ?_; rintro en w4 ⟨g4, cap4, b4, rfl, hrow4, hB4⟩))
  exact hQ _ _ rfl rfl hB5
set_option maxHeartbeats 1600000 in
theorem fg_yes {w : World} {vt vl : Value} (a : Act) (hz : SGs vt vl a) (B : Code) (Q : Exit → Act → World → Prop)
    (hQ : ∀ a', SGs vt vl a' → B.wp Tryd.prog Q a' w) : (Code.seq (fgP 5) B).wp Tryd.prog Q a w := by
  obtain ⟨x, rfl⟩ := hz.lit
  clear hz
  simp only [fgP, fstC, fgBody, bodyOf, Tryd.f6, Option.getD, cutTail, cutN, Option.map]
  go_wp2_with fail
  exact hQ _ ⟨rfl, rfl, rfl, rfl, rfl⟩
set_option maxHeartbeats 1600000 in
theorem fg_mid {w : World} {vt : Value} {g n cap : Nat} (hn : n ≤ 1000) (a : Act) (hz : SGs vt (.slice (some ⟨g, 0, none⟩) n cap) a) (B C : Code) (Q : Exit → Act → World → Prop)
    (hQ : ∀ a', SGb vt (.slice (some ⟨w.heap.size, 0, none⟩) 0 0) (.slice (some ⟨g, 0, none⟩) n cap) (.int .i64 n) (.int .i64 (0 : Nat)) a' → B.wp Tryd.prog (Exit.then (fun a w => C.wp Tryd.prog Q a w) Q) a' (w.alloc (.cells #[] 37))) :
    (Code.seq (fgP 6) (.seq (.seq (fstC (fgP 7)) B) C)).wp Tryd.prog Q a w := by
  obtain ⟨x, rfl⟩ := hz.lit
  clear hz
  simp only [fgP, fstC, fgBody, bodyOf, Tryd.f6, Option.getD, cutTail, cutN, Option.map]
  go_wp2_with fail
  first
    | exact hQ _ ⟨rfl, rfl, rfl, rfl, rfl, rfl, rfl⟩
    | (rename_i K hK
       refine Code.wp_mono (fun e a w h => ?_) (hQ _ ⟨rfl, rfl, rfl, rfl, rfl, rfl, rfl⟩)
       cases e <;> first | exact hK _ _ h | exact h)
theorem fg_out {w : World} {vt vo vr : Value} {n : Nat} (a : Act) (hz : SGb vt vo vr (.int .i64 n) (.int .i64 n) a) (Q : Exit → Act → World → Prop) (hQ : ∀ a', SGb vt vo vr (.int .i64 n) (.int .i64 n) a' → Q (.exit 0) a' w) : fgLoop.wp Tryd.prog Q a w := by
  obtain ⟨x, rfl⟩ := hz.lit
  clear hz
  have h1 : ¬ (n : Int) < (n : Int) := by omega
  simp only [fgLoop, fgP, fstC, fgBody, bodyOf, Tryd.f6, Option.getD, cutTail, cutN, Option.map, blkOf, loopOf, cond, Nat.beq]
  go_wp2_with fail
  exact ⟨rfl, rfl, rfl, rfl, rfl, rfl, rfl⟩
set_option maxHeartbeats 1600000 in
theorem fg_round {w : World} {base j n g cap : Nat} {vt vo : Value} {xs : List Value} {x : ByteArray} (hj : j < n) (hn : n ≤ 1000) (hbase : base ≤ w.heap.size) (hown : w.ownsRow base 37 5 vo j xs) (hc : w.cell? ⟨g, j, none⟩ = some (.string x))
    (a : Act) (hz : SGb vt vo (.slice (some ⟨g, 0, none⟩) n cap) (.int .i64 n) (.int .i64 j) a) (Q : Exit → Act → World → Prop)
    (hQ : ∀ a' w' g2 cap2, SGb vt (.slice (some ⟨g2, 0, none⟩) (j + 1) cap2) (.slice (some ⟨g, 0, none⟩) n cap) (.int .i64 n) (.int .i64 (j + 1 : Nat)) a' → w'.ownsRow base 37 5 (.slice (some ⟨g2, 0, none⟩) (j + 1) cap2) (j + 1) (xs ++ wCells (signW x)) → Below base w w' → Q .normal a' w') : fgLoop.wp Tryd.prog Q a w := by
  obtain ⟨y, rfl⟩ := hz.lit
  clear hz
  have hw : IntKind.i64.wrap ((j : Int) + 1) = ((j + 1 : Nat) : Int) := by rw [show (j : Int) + 1 = ((j + 1 : Nat) : Int) by omega]; exact i64_small (by omega) (by omega)
  have k1 : (0 : Int) ≤ (j : Int) := by omega
  have k2 : (j : Int) < (n : Int) := by omega
  have k3 : j ≤ 1000000 := by omega
  clear hj hn
  simp only [fgLoop, fgP, fstC, fgBody, bodyOf, Tryd.f6, Option.getD, cutTail, cutN, Option.map, blkOf, loopOf, cond, Nat.beq]
  go_wp2_with (at_builtin; refine cw_app1 (signW x) hown hbase k3 (by rfl) _ _ (by rfl) (by rfl) (by rfl) ?_; intro g3 cap3 w3 hw3 hB3)
  exact hQ _ _ _ _ ⟨rfl, rfl, rfl, rfl, rfl, rfl, rfl⟩ hw3 hB3
end Sc
end Go.Proofs.YtogkcphobhhbdaaDoor

/- FnGlued: true at every choice of signs. -/
namespace Go.Proofs.YtogkcphobhhbdaaDoor
open Go Go.RowKit Go.Lib
namespace Sc
open Ev
set_option maxRecDepth 100000
theorem sg_bytesAll {x : ByteArray} (h : ∀ j, j < x.size → SgB (x.get! j)) {y : ByteArray} (h2 : ∀ j, j < y.size → SgB (y.get! j)) : ∀ j, j < (x ++ y).size → SgB ((x ++ y).get! j) := fun j hj => by
  rw [app_size] at hj
  by_cases hjx : j < x.size
  · rw [get_left _ _ _ hjx]; exact h j hjx
  · have := get_right x y (j - x.size)
    rw [show x.size + (j - x.size) = j by omega] at this
    rw [this]; exact h2 _ (by omega)
theorem sg_at_bytes {p : Nat} (h : p < 47) : 0 < (sgL.getD p ⟨#[]⟩).size ∧ ∀ j, j < (sgL.getD p ⟨#[]⟩).size → SgB ((sgL.getD p ⟨#[]⟩).get! j) := sg_bytes (List.mem_of_getElem? (sgL_at h))
theorem glueT_ok {p q r s : Nat} (lp : p < 47) (lq : q < 47) (lr : r < 47) (ls : s < 47) : 0 < (glueT p q r s).size ∧ (glueT p q r s).size ≤ 12 ∧ ∀ j, j < (glueT p q r s).size → SgB ((glueT p q r s).get! j) := by
  unfold glueT
  have z1 := sg_len3 lp
  have z2 := sg_len3 lq
  have z3 := sg_len3 lr
  have z4 := sg_len3 ls
  obtain ⟨a1, b1⟩ := sg_at_bytes lp
  obtain ⟨a2, b2⟩ := sg_at_bytes lq
  obtain ⟨a3, b3⟩ := sg_at_bytes lr
  obtain ⟨a4, b4⟩ := sg_at_bytes ls
  refine ⟨by simp only [app_size]; omega, by simp only [app_size]; omega, sg_bytesAll (sg_bytesAll (sg_bytesAll b1 b2) b3) b4⟩
theorem sgseq_nil {src : ByteArray} {p : Nat} {ws : List ByteArray} (h : SgSeq src p ws) (e : ws = [] := by rfl) : p = src.size := by
  cases h with
  | nil => rfl
  | cons _ _ _ => cases e
theorem mun_len : ∀ (n : Nat) (s : ByteArray) (l : List ByteArray), munF n s = some l → l.length ≤ n
  | 0, s, l, h => by
    simp only [munF, Option.some.injEq] at h
    rw [← h]; exact Nat.le_refl _
  | n + 1, s, l, h => by
    simp only [munF] at h
    split at h
    · simp only [Option.some.injEq] at h
      rw [← h]; exact Nat.zero_le _
    · split at h
      · cases h
      · split at h
        · cases h
        · obtain ⟨l', h1, rfl⟩ := Option.map_eq_some_iff.1 h
          have := mun_len n _ _ h1
          simp only [List.length_cons]; omega
theorem fg_loop {w0 : World} {g cap n base : Nat} {l : List ByteArray} {vt : Value} (hl : l.length = n) (hn : n ≤ 1000) (hb0 : base ≤ w0.heap.size) (hc : ∀ w (j : Nat) x, Below base w0 w → l[j]? = some x → w.cell? ⟨g, j, none⟩ = some (.string x)) (Q : Exit → Act → World → Prop)
    (hQ : ∀ a w vo, SGb vt vo (.slice (some ⟨g, 0, none⟩) n cap) (.int .i64 n) (.int .i64 n) a → w.ownsRow base 37 5 vo n (flat wCells (l.map signW)) → Below base w0 w → Q .normal a w) :
    ∀ (d j : Nat) (vo : Value) (a : Act) (w : World), j + d = n → SGb vt vo (.slice (some ⟨g, 0, none⟩) n cap) (.int .i64 n) (.int .i64 j) a → w.ownsRow base 37 5 vo j (flat wCells ((l.take j).map signW)) → Below base w0 w →
      Code.rounds Tryd.prog fgLoop (Exit.inBlock 0 Q) (d + 1) a w
  | 0, j, vo, a, w, hj, hz, ho, hB => by
    have : j = n := by omega
    subst this
    rw [rounds_succ]
    rw [← hl, List.take_length] at ho
    rw [hl] at ho
    exact fg_out a hz _ (fun a' z' => hQ a' w vo z' ho hB)
  | d + 1, j, vo, a, w, hj, hz, ho, hB => by
    rw [rounds_succ]
    have hlt : j < l.length := by omega
    have hx : l[j]? = some l[j] := List.getElem?_eq_getElem hlt
    refine fg_round (by omega) hn (Nat.le_trans hb0 hB.size) ho (hc w j _ hB hx) a hz _ (fun a' w' g2 cap2 z' o' b' => ?_)
    refine fg_loop hl hn hb0 hc Q hQ d (j + 1) _ a' w' (by omega) z' ?_ (hB.trans b')
    rw [List.take_add_one, hx, Option.toList_some, List.map_append, List.map_singleton, flat_app]
    simpa [flat] using o'
set_option maxHeartbeats 1600000 in
theorem fg_last {w : World} {ea : Addr} (hG : Glob w ea) {T : ByteArray} {b1 j : Nat} {W : List WTok} {t : WTok} {vo vr vn vj : Value} (hT : T.size ≤ 2048) (hA : LikeAll (Sc.toks T 0) (closedF W t)) (h0 : (last T 0).notes = []) (hrow : w.ownsRow b1 37 5 vo W.length (flat wCells W)) (hj : W.length = j + 1) (hW2 : W.length ≤ 100000) (ht : W[j]? = some t)
    (a : Act) (hz : SGb (.string T) vo vr vn vj a) (Q : Exit → Act → World → Prop) (hQ : ∀ a' w', a'.defers = [] → a'.tmps[8]? = some (.bool true) → Below w.heap.size w w' → Q .ret a' w') : (cutTail 8 fgBody).wp Tryd.prog Q a w := by
  obtain ⟨g, cap, e, _, _⟩ := hrow.form (by omega)
  subst e
  obtain ⟨x, rfl⟩ := hz.lit
  clear hz
  have hC := closed_walk hrow hj hW2 ht
  have hTo := fun w gw capw b1 hG => toldL_walk (w := w) (ea := ea) (gw := gw) (capw := capw) (b1 := b1) hG hT hA h0
  clear hA h0 hrow hj ht hW2
  generalize closedF W t = W' at hC hTo
  simp only [fgBody, bodyOf, Tryd.f6, Option.getD, cutTail, cutN, Option.map]
  go_wp2_with (first
      | (go_at_call 21; refine (hTo _ _ _ _ (glob_move hG hB4) hrow4).mono ?_; rintro en w5 ⟨rfl, hB5⟩; have hB5 := below_up hB4 hB5)
      | (go_at_call 22; refine hC.mono ?_; rintro en w4 ⟨g4, cap4, rfl, hrow4, hB4⟩))
  exact hQ _ _ rfl rfl hB5
theorem fg_res {a : Act} {w : World} {v : Value} (h4 : a.tmps[8]? = some v) : (results Tryd.f6 a.tmps).run Tryd.prog w = .ok v w := by
  exact one_res (k := 8) (by kernel_rfl) h4
theorem fnGlued_walk {w : World} {ea : Addr} (p q r s : Int) (hG : Glob w ea) (hp : 0 ≤ p ∧ p ≤ 255) (hq : 0 ≤ q ∧ q ≤ 255) (hr : 0 ≤ r ∧ r ≤ 255) (hs : 0 ≤ s ∧ s ≤ 255) :
    Calls Tryd.prog 6 #[.int .u8 p, .int .u8 q, .int .u8 r, .int .u8 s] w fun en w' => en = .returned (.bool true) ∧ Below w.heap.size w w' := by
  refine calls_of_wp Tryd.func6 fg_body ?_
  have hnt : (Tryd.f6).ntmps - (#[.int .u8 p, .int .u8 q, .int .u8 r, .int .u8 s] : Array Value).size = 75 := by kernel_rfl
  rw [hnt]
  obtain ⟨mp, ep, lp⟩ : ∃ m : Nat, p.tmod 47 = m ∧ m < 47 := ⟨(p % 47).toNat, by rw [Int.tmod_eq_emod_of_nonneg hp.1]; omega, by omega⟩
  obtain ⟨mq, eq, lq⟩ : ∃ m : Nat, q.tmod 47 = m ∧ m < 47 := ⟨(q % 47).toNat, by rw [Int.tmod_eq_emod_of_nonneg hq.1]; omega, by omega⟩
  obtain ⟨mr, er, lr⟩ : ∃ m : Nat, r.tmod 47 = m ∧ m < 47 := ⟨(r % 47).toNat, by rw [Int.tmod_eq_emod_of_nonneg hr.1]; omega, by omega⟩
  obtain ⟨ms, es, ls⟩ : ∃ m : Nat, s.tmod 47 = m ∧ m < 47 := ⟨(s % 47).toNat, by rw [Int.tmod_eq_emod_of_nonneg hs.1]; omega, by omega⟩
  obtain ⟨t1, t2, t3⟩ := glueT_ok lp lq lr ls
  refine fg_first ep eq er es lp lq lr ls _ _ (fun a1 w1 z1 b1 => ?_)
  generalize glueT mp mq mr ms = T at t1 t2 t3 z1
  refine fg_mun rfl (by omega) a1 z1 _ _ (fun hN a2 w2 z2 b2 => ?_) (fun l hl a2 v w2 z2 hr2 b2 => ?_)
  · have b2 := below_up b1 b2
    exact fg_no (glob_move hG b2) a2 z2 _ _ (fun a3 w3 d0 d8 b3 => ⟨d0, _, fg_res d8, rfl, below_up b2 b3⟩)
  · have b2 := below_up b1 b2
    have hseq := mun_seq t3 T.size 0 l (by omega) (Nat.zero_le _) (by rw [ByteArray.extract_zero_size]; exact hl)
    have hll := mun_len _ _ _ hl
    have hne : 0 < l.length := by
      cases l with
      | nil => exact absurd (sgseq_nil hseq) (by omega)
      | cons x t => simp
    obtain ⟨lt, hlt⟩ : ∃ x, l.getLast? = some x := by
      cases hg : l.getLast? with
      | none => rw [List.getLast?_eq_none_iff] at hg; subst hg; simp at hne
      | some x => exact ⟨x, rfl⟩
    obtain ⟨hA, h0⟩ := glued_law (by omega) hseq hlt
    obtain ⟨g, cap, e, _, _⟩ := hr2.form hne
    subst e
    have hW : (l.map signW).length = l.length := by simp
    have hat : (l.map signW)[l.length - 1]? = some (signW lt) := by rw [List.getElem?_map, ← List.getLast?_eq_getElem?, hlt]; rfl
    refine fg_yes a2 z2 _ _ (fun a3 z3 => ?_)
    refine fg_mid (by omega) a3 z3 _ _ _ (fun a4 z4 => ?_)
    refine wp_block (wp_loop_rounds (l.length + 1) ?_)
    have hB0 : Below w2.heap.size w2 (w2.alloc (.cells #[] 37)) := Below.alloc (Below.refl _ _) (Nat.le_refl _) _
    refine fg_loop (w0 := w2.alloc (.cells #[] 37)) (base := w2.heap.size) (l := l) rfl (by omega) hB0.size (fun w' j x hB hx => own_row_cell (own_below (hB0.trans hB) hr2) (strs_get hx)) _ (fun a5 w5 vo5 z5 o5 b5 => ?_) l.length 0 _ a4 _ (by omega) z4 (own_empty w2) (Below.refl _ _)
    have b5 := hB0.trans b5
    have b5 := below_up b2 b5
    rw [← hW] at o5
    show (cutTail 8 fgBody).wp _ _ a5 w5
    refine fg_last (glob_move hG b5) (by omega) hA h0 o5 (j := l.length - 1) (by omega) (by omega) hat a5 z5 _ (fun a6 w6 d0 d8 b6 => ⟨d0, _, fg_res d8, rfl, below_up b5 b6⟩)
end Sc
end Go.Proofs.YtogkcphobhhbdaaDoor

/- From the listed variables to what the scanner reads of them. -/
namespace Go.Proofs.YtogkcphobhhbdaaDoor
open Go Go.RowKit Go.Lib Go.Shelf
namespace Sc
set_option maxRecDepth 100000
/-- The numbers of this dump, for the library's laws on tables. -/
def tabRen : Go.Shelf.Ren := ⟨fun n => n, fun | 3 => 3 | 49 => 120 | 51 => 44 | 141 => 94 | 196 => 119 | 193 => 116 | 194 => 117 | 198 => 122 | 201 => 125 | 5 => 5 | 119 => 115 | 138 => 152 | 139 => 153 | n => n, fun | 3 => 7 | 4 => 8 | n => n⟩
theorem tabR : RTypes Tryd.prog tabRen := ⟨Tryd.underlying3, Tryd.underlying120, Tryd.underlying44, Tryd.underlying94, Tryd.underlying116, Tryd.underlying117, Tryd.underlying119, Tryd.underlying122, Tryd.underlying125⟩
theorem tabX : RExtra Tryd.prog tabRen := ⟨by kernel_rfl, by kernel_rfl, by kernel_rfl, by kernel_rfl, by kernel_rfl, by kernel_rfl, by kernel_rfl, by kernel_rfl⟩
theorem u8R : U8Types Tryd.prog tabRen := ⟨Tryd.underlying5, Tryd.underlying115, Tryd.underlying152, Tryd.underlying153⟩
theorem u8X : U8Extra Tryd.prog tabRen := ⟨by kernel_rfl, by kernel_rfl, by kernel_rfl, by kernel_rfl, by kernel_rfl, by kernel_rfl, by kernel_rfl⟩
theorem errRow (u : TypeId) (h : Tryd.prog.typeName? 3 u = some "*errors.errorString") : u = 167 :=
  typeName_ptr_named (nm := "errors.errorString") (by rw [show "*" ++ "errors.errorString" = "*errors.errorString" by rfl]; kernel_rfl) (by kernel_rfl) (by decide) u (by rw [show "*" ++ "errors.errorString" = "*errors.errorString" by rfl]; exact h)
theorem tab_cell {W : World} {name : String} {g : Nat} {t e : TypeId} {n : Nat} {zs : List Int} (hg : Tryd.prog.globalNamed name = some g) (hy : (Tryd.prog.globals[g]?).map (·.type) = some t) (ht : Tryd.prog.underlying t = some (.array n e)) (he : Tryd.prog.underlying e = some (.int .u8)) (hce : Tryd.prog.cellsOf e = 1) (hct : Tryd.prog.cellsOf t = n)
    (h : VarReads Tryd.prog W name (tabData .u8 zs)) : TabIs Tryd.prog W name .u8 zs := by
  obtain ⟨g', t', cs, fuel, p, hg', hty, hvar, hd⟩ := h
  obtain rfl := Option.some.inj (hg.symm.trans hg')
  obtain rfl := Option.some.inj (hy.symm.trans hty)
  have hcs := cells_of_tab ht he hce hct hd
  unfold TabIs
  rw [hvar, ← hcs]
def tokTab : List Int := [0, 3, 7, 14, 16, 19, 23, 24, 26, 28, 29, 30, 31, 32, 33, 34, 35, 36, 37, 38, 39, 42, 47, 51, 55, 60, 68, 75, 80, 84, 95, 98, 102, 104, 108, 110, 116, 125, 128, 135, 140, 146, 152, 158, 164, 168, 171, 171]
def opTab : List Int := [0, 1, 2, 4, 5, 7, 9, 11, 13, 14, 16, 17, 19, 20, 21, 22, 23, 24, 25, 26, 27, 29, 31, 33]
theorem glob_of {W : World} (h : laidMet Tryd.prog Rows.fnEndsRow.laid W) : ∃ ea, Glob W ea := by
  have rd : ∀ {n : String} {d : DataW Unit}, (n, d) ∈ Rows.fnEndsRow.laid → VarReads Tryd.prog W n d := fun hm => Lib.laidMet.reads h hm
  have h5 := h.tail.tail.tail.tail
  obtain ⟨ea, s, hv, _, _, _⟩ := laid_sentinel (n := "io.EOF") (nm := "*errors.errorString") (text := [69, 79, 70]) h5 (g := 6) (by kernel_rfl) (by kernel_rfl) Tryd.underlying75 errRow Tryd.underlying167 Tryd.underlying181 rfl rfl Tryd.underlying9 (by kernel_rfl) (by kernel_rfl)
  have mem : ∀ i x, Rows.fnEndsRow.laid[i]? = some x → x ∈ Rows.fnEndsRow.laid := fun i x hx => List.mem_of_getElem? hx
  have r3 := rd (mem 3 ("unicode/utf8.acceptRanges", Rows.laid_unicode_utf8_acceptRanges) rfl)
  have r6 := rd (mem 6 ("unicode.properties", Rows.laid_unicode_properties) rfl)
  have r7 := rd (mem 7 (_, Rows.laid_loop_example_pub_g03120_pub_gosyntax_Operator_index) rfl)
  have r8 := rd (mem 8 (_, Rows.laid_loop_example_pub_g03120_pub_gosyntax_token_index) rfl)
  have r9 := rd (mem 9 ("unicode.Digit", Rows.laid_unicode_Digit) rfl)
  have r10 := rd (mem 10 ("unicode.Letter", Rows.laid_unicode_Letter) rfl)
  have r11 := rd (mem 11 ("unicode/utf8.first", Rows.laid_unicode_utf8_first) rfl)
  have e3 : (Rows.laid_unicode_utf8_acceptRanges : DataW Unit) = acceptData := by kernel_rfl
  have e6 : (Rows.laid_unicode_properties : DataW Unit) = tabData .u8 propertiesTab := by kernel_rfl
  have e7 : (Rows.laid_loop_example_pub_g03120_pub_gosyntax_Operator_index : DataW Unit) = tabData .u8 opTab := by kernel_rfl
  have e8 : (Rows.laid_loop_example_pub_g03120_pub_gosyntax_token_index : DataW Unit) = tabData .u8 tokTab := by kernel_rfl
  rw [e3] at r3
  rw [e6] at r6
  rw [e7] at r7
  rw [e8] at r8
  have r9' : VarReads Tryd.prog W "unicode.Digit" (rtabData digitT) := Pinned.digit_eq ▸ r9
  have r10' : VarReads Tryd.prog W "unicode.Letter" (rtabData letterT) := Pinned.letter_eq ▸ r10
  have r11' : VarReads Tryd.prog W "unicode/utf8.first" firstData := Pinned.utf8First_eq ▸ r11
  have t7 := tab_cell (g := 2) (t := 114) (by kernel_rfl) (by kernel_rfl) Tryd.underlying114 Tryd.underlying5 (by kernel_rfl) (by kernel_rfl) r7
  have t8 := tab_cell (g := 1) (t := 113) (by kernel_rfl) (by kernel_rfl) Tryd.underlying113 Tryd.underlying5 (by kernel_rfl) (by kernel_rfl) r8
  have t6 := tab_cell (g := 4) (t := 115) (by kernel_rfl) (by kernel_rfl) Tryd.underlying115 Tryd.underlying5 (by kernel_rfl) (by kernel_rfl) r6
  have r1 := rd (mem 1 ("math/bits.deBruijn64tab", Rows.laid_math_bits_deBruijn64tab) rfl)
  refine ⟨ea, ?_, ?_, t6, ?_, ?_, ?_, ?_, ?_⟩
  · have := World.var?_cell (show Tryd.prog.globalNamed "io.EOF" = some 6 by kernel_rfl) hv 0
    simpa using this
  · exact utf8Tabs_of_readsT u8R u8X r11' r3
  · exact rvar_of_readsT tabR tabX (name := "unicode.Letter") (g := 5) (by kernel_rfl) (by kernel_rfl) r10'
  · exact rvar_of_readsT tabR tabX (name := "unicode.Digit") (g := 0) (by kernel_rfl) (by kernel_rfl) r9'
  · exact fun i hi => t8.cell (by kernel_rfl) i hi
  · exact fun i hi => t7.cell (by kernel_rfl) i hi
  · obtain ⟨g', t', cs, fuel, p, hg', hty, hvar, hd⟩ := r1
    obtain rfl := Option.some.inj ((show Tryd.prog.globalNamed "math/bits.deBruijn64tab" = some 12 by kernel_rfl).symm.trans hg')
    unfold World.var? at hvar
    rw [hg'] at hvar
    simp only [Option.bind_some] at hvar
    cases hh : W.heap[12]? with
    | none => rw [hh] at hvar; cases hvar
    | some o => exact (Array.getElem?_eq_some_iff.1 hh).1
end Sc
end Go.Proofs.YtogkcphobhhbdaaDoor
