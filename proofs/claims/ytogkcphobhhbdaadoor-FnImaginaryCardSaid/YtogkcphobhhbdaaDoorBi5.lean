/- The scanner of the program told as plain functions, part 5: texts joined by a program (wip/tools/shake.py), without what this claim does not reach. -/
import Derived.Test.YtogkcphobhhbdaaDoorBi4
import Derived.Test.YtogkcphobhhbdaaDoorRows
import Derived.PinnedBridge
import Derived.Lib.LaidRTabT
import Derived.Lib.LaidU8T
import Derived.Stop.LaidErr
import Derived.Lay
import Derived.LaidMore
import Derived.ProofKit
import Derived.OpenShut
import Derived.OpenVars
import Derived.SevenTiedAt
import Derived.Stop.Joined
set_option linter.unusedVariables false
set_option linter.unusedSimpArgs false
/- Plain: numbers, piece by piece. -/
namespace Go.Proofs.YtogkcphobhhbdaaDoor
open Go Go.RowKit Go.Lib
namespace Sc
open Ev
set_option maxRecDepth 100000
theorem Cl.split {src : ByteArray} {bs : List Int} {q : Nat} : ∀ {us : List Int} {p : Nat}, Cl src p (us ++ bs) q → ∃ m, Cl src p us m ∧ Cl src m bs q
  | [], p, h => ⟨p, .nil, h⟩
  | a :: us, p, h => by
    cases h with
    | cons h1 h2 =>
      obtain ⟨m, g1, g2⟩ := Cl.split h2
      exact ⟨m, .cons h1 g1, g2⟩
theorem numTail_get {src : ByteArray} {n : St} {s : NumS} (h : NumI src n s) : (numTail src True Tree.leaf s).get numD =
    (p6T ((p5T src ((p45T src ((p4T src True ((p3T ((p2T src s).get numD)).get numD)).get numD)).get numD)).get numD)).get numD ∧
    NumI src n ((p45T src ((p4T src True ((p3T ((p2T src s).get numD)).get numD)).get numD)).get numD) := by
  have h2 := p2T_sat h
  have i2 := get_of_sat (d := numD) h2
  have h3 := p3T_sat i2
  have i3 := get_of_sat (d := numD) h3
  have h4 := p4T_sat (B := True) trivial i3
  have i4 := get_of_sat (d := numD) h4
  have h5 := p45T_sat i4
  have i5 := get_of_sat (d := numD) h5
  have h6 := p5T_sat i5
  have i6 := get_of_sat (d := numD) h6
  have h7 := p6T_sat i6
  refine ⟨?_, i5⟩
  unfold numTail
  rw [get_bind h2 _ _ numD, get_bind h3 _ _ numD, get_bind h4 _ _ numD, get_bind h5 _ _ numD, get_bind h6 _ _ numD, get_bind h7 _ _ numD]
  rfl
/-- On the way through a number: at a place; nothing told as long as it is good. -/
structure Np (src : ByteArray) (n : St) (q : Nat) (s : NumS) : Prop where
  at1 : At1 src q s.st
  good : s.ok = true → s.st.notes = n.notes
  bad : s.ok = false → n.notes.length < s.st.notes.length
theorem At1.err {src : ByteArray} {q : Nat} {st : St} (h : At1 src q st) (m : ByteArray) : At1 src q (error m st) := ⟨h.std.same rfl rfl rfl rfl, (h.off.error m).1⟩
theorem err_more (m : ByteArray) (st : St) : st.notes.length < (error m st).notes.length := by rw [error_len]; omega
theorem Np.on {src : ByteArray} {n x : St} {q q' : Nat} {s s' : NumS} (h : Np src n q s) (hx : At1 src q' x) (hs : Sil src s.st x) (e1 : s'.st = x) (e2 : s'.ok = s.ok) : Np src n q' s' :=
  ⟨by rw [e1]; exact hx, fun h1 => by rw [e1, hs.notes]; exact h.good (by rw [← e2]; exact h1), fun h1 => by rw [e1, hs.notes]; exact h.bad (by rw [← e2]; exact h1)⟩
theorem Np.err {src : ByteArray} {n : St} {q : Nat} {s s' : NumS} (h : Np src n q s) (m : ByteArray) (e1 : s'.st = error m s.st) (e2 : s'.ok = false) : Np src n q s' := by
  have hm := err_more m s.st
  refine ⟨by rw [e1]; exact h.at1.err m, fun h1 => (by rw [e2] at h1; cases h1), fun _ => ?_⟩
  rw [e1]
  cases hk : s.ok with
  | true => have := h.good hk; rw [this] at hm; exact hm
  | false => have := h.bad hk; omega
/-- What a number on the way has come to, but for its state. -/
structure Nf (ok : Bool) (kind base pre : Int) (a b : Bool) (s : NumS) : Prop where
  ok : s.ok = ok
  kind : s.kind = kind
  base : s.base = base
  pre : s.pre = pre
  dig : s.dig = bitsOf a b
theorem bits_ne (a b : Bool) : (bitsOf a false == 0) = !a ∧ (bitsOf false b != 0) = b := by cases a <;> cases b <;> decide
/-! The digits behind a point. -/
theorem p2_cl {src : ByteArray} {n : St} {q q' : Nat} {s : NumS} {base pre : Int} {ok a b : Bool} {ds : List Int} (hb : baseOk base) (h : Np src n q s) (hf : Nf ok 0 base pre a b s) (hc : Cl src q ds q') (hd : ∀ x ∈ ds, digU base x = true) (hq : s.seen = true → EndOf (digU base) src q') (hs : s.seen = false → ds = []) :
    Np src n q' ((p2T src s).get numD) ∧ Nf ok (if s.seen = true then 1 else 0) base pre (a || hasDg ds) (b || hasSp ds) ((p2T src s).get numD) ∧ (s.seen = false → ((p2T src s).get numD).inv = s.inv) := by
  obtain ⟨f1, f2, f3, f4, f5⟩ := hf
  cases hsn : s.seen with
  | false =>
    obtain rfl := hs hsn
    cases hc
    have e : (p2T src s).get numD = s := by simp [p2T, Tree.get, hsn]
    rw [e]
    exact ⟨h, ⟨f1, by simp [f2], f3, f4, by simp [hasDg, hasSp, f5]⟩, fun _ => rfl⟩
  | true =>
    obtain ⟨st', inv', k1, k2, k3, k4⟩ := digits_cl hb hc s.inv hd (hq hsn) h.at1
    have e : (p2T src s).get numD = { s with st := st', kind := 1, dig := orI s.dig (bitsOf (hasDg ds) (hasSp ds)), inv := inv' } := by simp [p2T, Tree.get, hsn, f3, k1]
    rw [e]
    exact ⟨h.on k2 k3 rfl rfl, ⟨f1, by simp, f3, f4, by rw [f5, or_bits]⟩, fun h => by cases h⟩
theorem p3_cl {src : ByteArray} {n : St} {q : Nat} {s : NumS} {kind base pre : Int} {ok a b : Bool} (h : Np src n q s) (hf : Nf ok kind base pre a b s) :
    Np src n q ((p3T s).get numD) ∧ Nf (ok && a) kind base pre a b ((p3T s).get numD) ∧ ((p3T s).get numD).inv = s.inv := by
  obtain ⟨f1, f2, f3, f4, f5⟩ := hf
  have e0 : (andI s.dig 1 == 0) = !a := by rw [f5, and_one]; exact (bits_ne a b).1
  cases a with
  | true =>
    have e : (p3T s).get numD = s := by simp [p3T, Tree.get, e0]
    rw [e]
    exact ⟨h, ⟨by simp [f1], f2, f3, f4, f5⟩, rfl⟩
  | false =>
    cases hk : s.ok with
    | false =>
      have e : (p3T s).get numD = s := by simp [p3T, Tree.get, e0, hk]
      rw [e]
      exact ⟨h, ⟨by simp [hk], f2, f3, f4, f5⟩, rfl⟩
    | true =>
      have e : (p3T s).get numD = { s with st := error msgNoDig s.st, ok := false } := by simp [p3T, Tree.get, e0, hk]
      rw [e]
      exact ⟨h.err msgNoDig rfl rfl, ⟨by simp, f2, f3, f4, f5⟩, rfl⟩
/-! The exponent. -/
theorem expErr_cl {src : ByteArray} {n : St} {q : Nat} {s : NumS} {kind base pre : Int} {ok a b : Bool} (e : Int) (h : Np src n q s) (hf : Nf true kind base pre a b s) :
    Np src n q (expErr (s, e)) ∧ Nf (!(decide (e = 101 ∧ pre ≠ 0 ∧ pre ≠ 48)) && !(decide (e = 112 ∧ pre ≠ 120))) kind base pre a b (expErr (s, e)) ∧ (expErr (s, e)).st.ch = s.st.ch ∧ (expErr (s, e)).inv = s.inv := by
  obtain ⟨f1, f2, f3, rfl, f5⟩ := hf
  by_cases h1 : e = 101 ∧ s.pre ≠ 0 ∧ s.pre ≠ 48
  · have eT : expErr (s, e) = { s with st := error msgDec s.st, ok := false } := if_pos h1
    rw [eT]
    exact ⟨h.err msgDec rfl rfl, ⟨by simp [h1], f2, f3, rfl, f5⟩, rfl, rfl⟩
  · by_cases h2 : e = 112 ∧ s.pre ≠ 120
    · have eT : expErr (s, e) = { s with st := error msgHex s.st, ok := false } := (if_neg h1).trans (if_pos h2)
      rw [eT]
      exact ⟨h.err msgHex rfl rfl, ⟨by simp [h2], f2, f3, rfl, f5⟩, rfl, rfl⟩
    · have eT : expErr (s, e) = s := (if_neg h1).trans (if_neg h2)
      rw [eT]
      exact ⟨h, ⟨by rw [f1]; simp [h1, h2], f2, f3, rfl, f5⟩, rfl, rfl⟩
theorem expDig_cl {src : ByteArray} {n x : St} {q q0 q' : Nat} {s : NumS} {kind base pre : Int} {ok a b : Bool} {ds : List Int} (h : Np src n q0 s) (hf : Nf ok kind base pre a b s) (hx : At1 src q x) (hs : Sil src s.st x) (hc : Cl src q ds q') (hd : ∀ x ∈ ds, decU x = true) (hq : EndOf decU src q') :
    Np src n q' ((expDigT src s x).get numD) ∧ Nf (ok && hasDg ds) 1 base pre (hasDg ds) (b || hasSp ds) ((expDigT src s x).get numD) ∧ ((expDigT src s x).get numD).inv = s.inv := by
  obtain ⟨f1, f2, f3, f4, f5⟩ := hf
  obtain ⟨st', k1, k2, k3⟩ := digN_cl hc false false hd hq hx
  have : bitsOf false false = 0 := rfl
  rw [this] at k1
  simp only [Bool.false_or] at k1
  have e1 : orI (digNF src (x, 0)).2 (andI s.dig 2) = bitsOf (hasDg ds) (b || hasSp ds) := by rw [k1, f5, and_two, or_bits, Bool.or_false, Bool.or_comm]
  have e0 : (andI (orI (digNF src (x, 0)).2 (andI s.dig 2)) 1 == 0) = !(hasDg ds) := by rw [e1, and_one]; exact (bits_ne _ b).1
  have hx' : At1 src q' (digNF src (x, 0)).1 := by rw [k1]; exact k2
  have hs' : Sil src s.st (digNF src (x, 0)).1 := by rw [k1]; exact hs.trans k3
  have key : Np src n q' { s with st := (digNF src (x, 0)).1, kind := 1, dig := orI (digNF src (x, 0)).2 (andI s.dig 2) } := h.on hx' hs' rfl rfl
  cases hg : hasDg ds with
  | true =>
    rw [hg] at e0
    have eT : (expDigT src s x).get numD = { s with st := (digNF src (x, 0)).1, kind := 1, dig := orI (digNF src (x, 0)).2 (andI s.dig 2) } := by simp [expDigT, Tree.get, e0]
    rw [eT]
    exact ⟨key, ⟨by simp [f1], rfl, f3, f4, by rw [← hg]; exact e1⟩, rfl⟩
  | false =>
    rw [hg] at e0
    cases hk : s.ok with
    | false =>
      have eT : (expDigT src s x).get numD = { s with st := (digNF src (x, 0)).1, kind := 1, dig := orI (digNF src (x, 0)).2 (andI s.dig 2) } := by simp [expDigT, Tree.get, e0, hk]
      rw [eT]
      exact ⟨key, ⟨by simp [hk], rfl, f3, f4, by rw [← hg]; exact e1⟩, rfl⟩
    | true =>
      have eT : (expDigT src s x).get numD = { s with st := error msgExp (digNF src (x, 0)).1, ok := false, kind := 1, dig := orI (digNF src (x, 0)).2 (andI s.dig 2) } := by simp [expDigT, Tree.get, e0, hk]
      rw [eT]
      exact ⟨key.err msgExp rfl rfl, ⟨by simp, rfl, f3, f4, by rw [← hg]; exact e1⟩, rfl⟩
/-- An exponent behind its letter: a sign or none, digits. -/
theorem expSign_cl {src : ByteArray} {n : St} {q q' : Nat} {s : NumS} {kind base pre : Int} {ok a b : Bool} {e : Int} {sg ds : List Int} (h : Np src n q s) (hf : Nf ok kind base pre a b s) (he : ChAt src q e 1) (he10 : e ≠ 10) (hsg : sg = [] ∨ sg = [43] ∨ sg = [45])
    (hc : Cl src (q + 1) (sg ++ ds) q') (hd : ∀ x ∈ ds, decU x = true) (hq : EndOf decU src q') (hns : sg = [] → ds = [] → ∀ r w, ChAt src q' r w → r ≠ 43 ∧ r ≠ 45) :
    Np src n q' ((expSignT src s).get numD) ∧ Nf (ok && hasDg ds) 1 base pre (hasDg ds) (b || hasSp ds) ((expSignT src s).get numD) ∧ ((expSignT src s).get numD).inv = s.inv := by
  obtain ⟨e1, h1, s1⟩ := h.at1.next he he10 (hc.cln hq.1)
  have sgn : ∀ c : Int, c = 43 ∨ c = 45 → Cl src (q + 1) (c :: ds) q' → Np src n q' ((expDigT src s (nextch src (nextch src s.st))).get numD) ∧ Nf (ok && hasDg ds) 1 base pre (hasDg ds) (b || hasSp ds) ((expDigT src s (nextch src (nextch src s.st))).get numD) ∧ ((expDigT src s (nextch src (nextch src s.st))).get numD).inv = s.inv ∧ (nextch src s.st).ch = c := fun c hcc hc => by
    cases hc with
    | cons k1 k2 =>
      obtain ⟨_, rfl⟩ := k1.byte (by omega)
      obtain ⟨e2, h2, s2⟩ := h1.next k1 (by omega) (k2.cln hq.1)
      obtain ⟨g1, g2, g3⟩ := expDig_cl h hf h2 (s1.trans s2) k2 hd hq
      exact ⟨g1, g2, g3, e2⟩
  unfold expSignT
  simp only [Tree.get]
  rcases hsg with rfl | rfl | rfl
  · have hno : (nextch src s.st).ch ≠ 43 ∧ (nextch src s.st).ch ≠ 45 := by
      cases ds with
      | nil =>
        cases hc
        rcases h1.std.ch with k | ⟨_, k, _⟩
        · exact hns rfl rfl _ _ k
        · omega
      | cons d ds =>
        cases hc with
        | cons k1 k2 =>
          have := decU_in (hd d (by simp))
          have := (h1.std.of k1).1
          omega
    have n1 : ((nextch src s.st).ch == 43) = false := by simpa using hno.1
    have n2 : ((nextch src s.st).ch == 45) = false := by simpa using hno.2
    simp only [n1, n2, Bool.false_eq_true, if_false]
    exact expDig_cl h hf h1 s1 hc hd hq
  · obtain ⟨g1, g2, g3, g4⟩ := sgn 43 (.inl rfl) hc
    have n1 : ((nextch src s.st).ch == 43) = true := by simpa using g4
    simp only [n1, if_true]
    exact ⟨g1, g2, g3⟩
  · obtain ⟨g1, g2, g3, g4⟩ := sgn 45 (.inr rfl) hc
    have n1 : ((nextch src s.st).ch == 43) = false := by rw [g4]; rfl
    have n2 : ((nextch src s.st).ch == 45) = true := by simpa using g4
    simp only [n1, n2, Bool.false_eq_true, if_false, if_true]
    exact ⟨g1, g2, g3⟩
/-- An exponent: its letter, its sign, its digits. -/
abbrev NumE := Option (Int × List Int × List Int)
def exChars : NumE → List Int
  | none => []
  | some (e, sg, ds) => e :: (sg ++ ds)
def exOk (pre : Int) (pt : Bool) : NumE → Bool
  | none => !(decide (pre = 120) && pt)
  | some (e, _, ds) => !(decide (lowerF e = 101 ∧ pre ≠ 0 ∧ pre ≠ 48)) && !(decide (lowerF e = 112 ∧ pre ≠ 120)) && hasDg ds
def exSp : NumE → Bool
  | none => false
  | some (_, _, ds) => hasSp ds
def ExWf : NumE → Prop
  | none => True
  | some (e, sg, ds) => (e = 101 ∨ e = 69 ∨ e = 112 ∨ e = 80) ∧ (sg = [] ∨ sg = [43] ∨ sg = [45]) ∧ ∀ x ∈ ds, decU x = true
/-- What ends a number. -/
structure NumEnd (src : ByteArray) (q : Nat) (ex : NumE) (im : Bool) : Prop where
  cl : Cln src q
  dec : ∀ r w, ChAt src q r w → decU r = false ∧ hexU r = false ∧ lowerF r ≠ 101 ∧ lowerF r ≠ 112 ∧ r ≠ 105 ∧ r ≠ 46 ∧ lowerF r ≠ 120 ∧ lowerF r ≠ 111 ∧ lowerF r ≠ 98
  sgn : ∀ e, ex = some (e, [], []) → im = false → ∀ r w, ChAt src q r w → r ≠ 43 ∧ r ≠ 45
theorem noExp_cl {src : ByteArray} {n : St} {q : Nat} {s : NumS} {base pre : Int} {ok a b pt : Bool} (h : Np src n q s) (hf : Nf ok (if pt = true then 1 else 0) base pre a b s) :
    Np src n q ((noExpT s).get numD) ∧ Nf (ok && !(decide (pre = 120) && pt)) (if pt = true then 1 else 0) base pre a b ((noExpT s).get numD) ∧ ((noExpT s).get numD).inv = s.inv := by
  obtain ⟨f1, f2, f3, rfl, f5⟩ := hf
  have same : (noExpT s).get numD = s → (ok && !(decide (s.pre = 120) && pt)) = ok → Np src n q ((noExpT s).get numD) ∧ Nf (ok && !(decide (s.pre = 120) && pt)) (if pt = true then 1 else 0) base s.pre a b ((noExpT s).get numD) ∧ ((noExpT s).get numD).inv = s.inv := fun e1 e2 => by
    rw [e1, e2]
    exact ⟨h, ⟨f1, f2, f3, rfl, f5⟩, rfl⟩
  by_cases hp : s.pre = 120
  · cases pt with
    | true =>
      have f2' : s.kind = 1 := f2
      cases hk : s.ok with
      | true =>
        have eT : (noExpT s).get numD = { s with st := error msgMant s.st, ok := false } := by simp [noExpT, Tree.get, hp, f2', hk]
        rw [eT]
        exact ⟨h.err msgMant rfl rfl, ⟨by simp [hp], f2, f3, rfl, f5⟩, rfl⟩
      | false => exact same (by simp [noExpT, Tree.get, hp, f2', hk]) (by rw [← f1, hk]; rfl)
    | false =>
      have f2' : s.kind = 0 := f2
      exact same (by simp [noExpT, Tree.get, hp, f2']) (by simp)
  · exact same (by simp [noExpT, Tree.get, hp]) (by simp [hp])
theorem low_tab : ((List.range 128).all fun n => (decide (lowerF (n : Nat) = 101) == decide (n = 101 ∨ n = 69)) && (decide (lowerF (n : Nat) = 112) == decide (n = 112 ∨ n = 80)) && (decide (lowerF (n : Nat) = 120) == decide (n = 120 ∨ n = 88)) && (decide (lowerF (n : Nat) = 111) == decide (n = 111 ∨ n = 79)) && (decide (lowerF (n : Nat) = 98) == decide (n = 98 ∨ n = 66))) = true := by kernel_rfl
theorem low_of {c : Int} (h0 : 0 ≤ c) (h1 : c ≤ 1114111) : (lowerF c = 101 ↔ c = 101 ∨ c = 69) ∧ (lowerF c = 112 ↔ c = 112 ∨ c = 80) ∧ (lowerF c = 120 ↔ c = 120 ∨ c = 88) ∧ (lowerF c = 111 ↔ c = 111 ∨ c = 79) ∧ (lowerF c = 98 ↔ c = 98 ∨ c = 66) := by
  by_cases h : c < 128
  · have := List.all_eq_true.1 low_tab c.toNat (List.mem_range.2 (by omega))
    rw [show ((c.toNat : Nat) : Int) = c by omega] at this
    simp only [Bool.and_eq_true, beq_iff_eq, decide_eq_decide] at this
    obtain ⟨⟨⟨⟨t1, t2⟩, t3⟩, t4⟩, t5⟩ := this
    rw [t1, t2, t3, t4, t5]
    omega
  · have := lower_big (c := c) (by omega) h1
    omega
theorem low_eof : lowerF (-1) ≠ 101 ∧ lowerF (-1) ≠ 112 ∧ lowerF (-1) ≠ 120 ∧ lowerF (-1) ≠ 111 ∧ lowerF (-1) ≠ 98 := by decide +kernel
/-- The character that a state is at, by the list that stands there. -/
theorem At1.head {src : ByteArray} {q q' : Nat} {st : St} {c : Int} {cs : List Int} (h : At1 src q st) (hc : Cl src q (c :: cs) q') : st.ch = c ∧ 1 ≤ c ∧ c ≤ 1114111 := by
  cases hc with
  | cons k1 k2 => exact ⟨(h.std.of k1).1, k1.w.2.2.1, k1.w.2.2.2⟩
theorem At1.fin {src : ByteArray} {q : Nat} {st : St} {ex : NumE} {im : Bool} (h : At1 src q st) (he : NumEnd src q ex im) : decU st.ch = false ∧ hexU st.ch = false ∧ lowerF st.ch ≠ 101 ∧ lowerF st.ch ≠ 112 ∧ st.ch ≠ 105 ∧ st.ch ≠ 46 ∧ lowerF st.ch ≠ 120 ∧ lowerF st.ch ≠ 111 ∧ lowerF st.ch ≠ 98 := by
  rcases h.std.ch with k | ⟨_, k, _⟩
  · exact he.dec _ _ k
  · rw [k]
    exact ⟨by decide, by decide, low_eof.1, low_eof.2.1, by decide, by decide, low_eof.2.2.1, low_eof.2.2.2.1, low_eof.2.2.2.2⟩
def imChars (im : Bool) : List Int := if im = true then [105] else []
theorem p4_cl {src : ByteArray} {n : St} {q q2 : Nat} {s : NumS} {base pre : Int} {ok a b pt : Bool} {ex : NumE} {im : Bool} (h : Np src n q s) (hf : Nf ok (if pt = true then 1 else 0) base pre a b s) (hw : ExWf ex) (hc : Cl src q (exChars ex ++ imChars im) q2) (he : NumEnd src q2 ex im) :
    ∃ q', Cl src q' (imChars im) q2 ∧ Np src n q' ((p4T src True s).get numD) ∧ ∃ a', Nf (ok && exOk pre pt ex) (if pt = true ∨ ex.isSome = true then 1 else 0) base pre a' (b || exSp ex) ((p4T src True s).get numD) ∧ ((p4T src True s).get numD).inv = s.inv := by
  have hch := h.at1
  cases ex with
  | none =>
    have hno : lowerF s.st.ch ≠ 101 ∧ lowerF s.st.ch ≠ 112 := by
      cases im with
      | true => rw [(hch.head hc).1]; decide +kernel
      | false =>
        cases hc
        have := hch.fin he
        exact ⟨this.2.2.1, this.2.2.2.1⟩
    have n1 : (lowerF s.st.ch == 101) = false := by simpa using hno.1
    have n2 : (lowerF s.st.ch == 112) = false := by simpa using hno.2
    have e : (p4T src True s).get numD = (noExpT s).get numD := by simp only [p4T, Tree.get, n1, n2, Bool.false_eq_true, if_false]
    rw [e]
    obtain ⟨g1, g2, g3⟩ := noExp_cl h hf
    refine ⟨q, hc, g1, a, ?_, g3⟩
    simpa [exOk, exSp] using g2
  | some t =>
    obtain ⟨e, sg, ds⟩ := t
    obtain ⟨w1, w2, w3⟩ := hw
    obtain ⟨h1, h2, h3⟩ := hch.head (c := e) hc
    have hlow := low_of (c := e) (by omega) (by omega)
    cases hc with
    | @cons _ w _ _ _ k1 k2 =>
    obtain ⟨_, rfl⟩ := k1.byte (by omega)
    obtain ⟨m, m1, m2⟩ := Cl.split (us := sg ++ ds) (bs := imChars im) k2
    have hend : EndOf decU src m := by
      cases im with
      | true =>
        cases m2 with
        | cons j1 j2 => exact ⟨.inl ⟨_, _, j1⟩, fun r w hr => by rw [(hr.uniq j1).1]; decide⟩
      | false =>
        cases m2
        exact ⟨he.cl, fun r w hr => (he.dec r w hr).1⟩
    have hns : sg = [] → ds = [] → ∀ r w, ChAt src m r w → r ≠ 43 ∧ r ≠ 45 := fun z1 z2 r w hr => by
      subst z1 z2
      cases im with
      | true =>
        cases m2 with
        | cons j1 j2 => have := (hr.uniq j1).1; omega
      | false =>
        cases m2
        exact he.sgn e rfl rfl r w hr
    refine ⟨m, m2, ?_⟩
    have hl : lowerF e = 101 ∨ lowerF e = 112 := by
      rcases w1 with w | w | w | w
      · exact .inl (hlow.1.2 (.inl w))
      · exact .inl (hlow.1.2 (.inr w))
      · exact .inr (hlow.2.1.2 (.inl w))
      · exact .inr (hlow.2.1.2 (.inr w))
    have eT : (p4T src True s).get numD = if s.ok = true then (expSignT src (expErr (s, lowerF e))).get numD else (expSignT src s).get numD := by
      rcases hl with hl | hl
      · simp only [p4T, Tree.get, h1, hl, beq_self_eq_true, if_true]
      · simp only [p4T, Tree.get, h1, hl, beq_self_eq_true, if_true, show ((112 : Int) == 101) = false from rfl, Bool.false_eq_true, if_false]
    rw [eT]
    have hkind : (if pt = true ∨ (some (e, sg, ds) : NumE).isSome = true then (1 : Int) else 0) = 1 := by simp
    rw [hkind]
    cases hk : s.ok with
    | true =>
      rw [if_pos rfl]
      have hok : ok = true := by rw [← hf.ok]; exact hk
      subst hok
      obtain ⟨g1, g2, g3, g4⟩ := expErr_cl (ok := true) (lowerF e) h hf
      obtain ⟨i1, i2, i3⟩ := expSign_cl g1 g2 k1 (by omega) w2 m1 w3 hend hns
      refine ⟨i1, hasDg ds, ?_, by rw [i3, g4]⟩
      simpa [exOk, exSp, Bool.and_assoc] using i2
    | false =>
      have hok : ok = false := by rw [← hf.ok]; exact hk
      subst hok
      rw [if_neg (by simp)]
      obtain ⟨i1, i2, i3⟩ := expSign_cl h hf k1 (by omega) w2 m1 w3 hend hns
      exact ⟨i1, hasDg ds, by simpa [exSp] using i2, i3⟩
theorem p45_cl {src : ByteArray} {n : St} {q q2 : Nat} {s : NumS} {kind base pre : Int} {ok a b : Bool} {ex : NumE} {im : Bool} (h : Np src n q s) (hf : Nf ok kind base pre a b s) (hc : Cl src q (imChars im) q2) (he : NumEnd src q2 ex im) :
    Np src n q2 ((p45T src s).get numD) ∧ Nf ok (if im = true then 2 else kind) base pre a b ((p45T src s).get numD) ∧ ((p45T src s).get numD).inv = s.inv := by
  obtain ⟨f1, f2, f3, f4, f5⟩ := hf
  cases im with
  | true =>
    cases hc with
    | cons k1 k2 =>
      cases k2
      obtain ⟨_, rfl⟩ := k1.byte (by decide)
      obtain ⟨e, g1, g2⟩ := h.at1.next k1 (by decide) he.cl
      have eT : (p45T src s).get numD = { s with st := nextch src s.st, kind := 2 } := by simp [p45T, Tree.get, e]
      rw [eT]
      exact ⟨h.on g1 g2 rfl rfl, ⟨f1, by simp, f3, f4, f5⟩, rfl⟩
  | false =>
    cases hc
    have := h.at1.fin he
    have eT : (p45T src s).get numD = s := by simp [p45T, Tree.get, this.2.2.2.2.1]
    rw [eT]
    exact ⟨h, ⟨f1, by simp [f2], f3, f4, f5⟩, rfl⟩
/-- The end of a number: its text, whether it is good. -/
theorem p56_cl {src : ByteArray} {n : St} {q q2 : Nat} {s : NumS} {kind base pre : Int} {ok a b : Bool} (h : Np src n q2 s) (hf : Nf ok kind base pre a b s) (hI : NumI src n s) (hb : n.b = some q) :
    ∃ t : NumS, (p6T ((p5T src s).get numD)).get numD = t ∧ Std src q2 t.st ∧ t.ok = (ok && !(decide (kind = 0) && decide (0 ≤ s.inv)) && !(b && decide (0 ≤ invalidSepF (src.extract q q2)))) ∧
      (t.ok = true → t.st.notes = n.notes) ∧ (t.ok = false → n.notes.length < t.st.notes.length) ∧ t.st.lit = src.extract q q2 ∧ t.st.kind = kind ∧ t.st.tok = 3 ∧ t.st.nlsemi = true ∧ t.st.mode = n.mode ∧ t.st.line = n.line ∧ t.st.col = n.col := by
  obtain ⟨f1, f2, f3, f4, f5⟩ := hf
  have hk := hI.on.keep
  have hseg : seg src s.st = src.extract q q2 := by
    unfold seg
    rw [hI.on.b, hb, h.at1.std.cut]; rfl
  have hmode : s.st.mode = n.mode := by rw [hk]
  have hline : s.st.line = n.line := by rw [hk]
  have hcol : s.st.col = n.col := by rw [hk]
  have hlitE : (setLitF src s.kind s.ok s.st).lit = src.extract q q2 := hseg
  -- behind the text
  obtain ⟨u, hu, u1, u2, u3, u4, u5, u6⟩ : ∃ u : NumS, (p5T src s).get numD = u ∧ u.ok = (ok && !(decide (kind = 0) && decide (0 ≤ s.inv))) ∧ u.dig = bitsOf a b ∧ Std src q2 u.st ∧ (u.ok = true → u.st.notes = n.notes) ∧ (u.ok = false → n.notes.length < u.st.notes.length) ∧
      (u.st.lit = src.extract q q2 ∧ u.st.kind = kind ∧ u.st.tok = 3 ∧ u.st.nlsemi = true ∧ u.st.mode = n.mode ∧ u.st.line = n.line ∧ u.st.col = n.col) := by
    have plain : (p5T src s).get numD = { s with st := setLitF src s.kind s.ok s.st } → (ok && !(decide (kind = 0) && decide (0 ≤ s.inv))) = ok → ∃ u : NumS, (p5T src s).get numD = u ∧ u.ok = (ok && !(decide (kind = 0) && decide (0 ≤ s.inv))) ∧ u.dig = bitsOf a b ∧ Std src q2 u.st ∧ (u.ok = true → u.st.notes = n.notes) ∧ (u.ok = false → n.notes.length < u.st.notes.length) ∧
        (u.st.lit = src.extract q q2 ∧ u.st.kind = kind ∧ u.st.tok = 3 ∧ u.st.nlsemi = true ∧ u.st.mode = n.mode ∧ u.st.line = n.line ∧ u.st.col = n.col) := fun e1 e2 =>
      ⟨_, e1, by rw [e2]; exact f1, f5, h.at1.std.same rfl rfl rfl rfl, h.good, h.bad, hlitE, f2, rfl, rfl, hmode, hline, hcol⟩
    by_cases hk0 : kind = 0
    · by_cases hinv : 0 ≤ s.inv
      · cases hok : s.ok with
        | false =>
          have ho : ok = false := by rw [← f1]; exact hok
          refine plain ?_ (by rw [ho]; rfl)
          simp [p5T, Tree.get, f2, hk0, hinv, hok]
        | true =>
          have e : (p5T src s).get numD = { s with st := errorAtF s.inv msgInv (setLitF src s.kind s.ok s.st), ok := false } := by simp [p5T, Tree.get, f2, hk0, hinv, hok]
          refine ⟨_, e, by simp [hk0, hinv], f5, h.at1.std.same rfl rfl rfl rfl, fun h => (by cases h), fun _ => ?_, hlitE, f2, rfl, rfl, hmode, hline, hcol⟩
          show n.notes.length < (s.st.notes ++ [_]).length
          rw [h.good hok]; simp
      · refine plain ?_ (by simp [hinv])
        simp [p5T, Tree.get, f2, hk0, hinv]
    · refine plain ?_ (by simp [hk0])
      simp [p5T, Tree.get, f2, hk0]
  rw [hu]
  obtain ⟨l1, l2, l3, l4, l5, l6, l7⟩ := u6
  have e0 : (andI u.dig 2 != 0) = b := by rw [u2, and_two]; exact (bits_ne a b).2
  have same : (p6T u).get numD = u → (ok && !(decide (kind = 0) && decide (0 ≤ s.inv)) && !(b && decide (0 ≤ invalidSepF (src.extract q q2)))) = u.ok → ∃ t : NumS, (p6T u).get numD = t ∧ Std src q2 t.st ∧ t.ok = (ok && !(decide (kind = 0) && decide (0 ≤ s.inv)) && !(b && decide (0 ≤ invalidSepF (src.extract q q2)))) ∧
      (t.ok = true → t.st.notes = n.notes) ∧ (t.ok = false → n.notes.length < t.st.notes.length) ∧ t.st.lit = src.extract q q2 ∧ t.st.kind = kind ∧ t.st.tok = 3 ∧ t.st.nlsemi = true ∧ t.st.mode = n.mode ∧ t.st.line = n.line ∧ t.st.col = n.col := fun e1 e2 =>
    ⟨u, e1, u3, e2.symm, u4, u5, l1, l2, l3, l4, l5, l6, l7⟩
  cases b with
  | false => exact same (by simp [p6T, Tree.get, e0]) (by rw [u1]; simp)
  | true =>
    cases hok : u.ok with
    | false => exact same (by simp [p6T, Tree.get, e0, hok]) (by rw [← u1, hok]; rfl)
    | true =>
      by_cases hv : 0 ≤ invalidSepF (src.extract q q2)
      · have e : (p6T u).get numD = { u with st := errorAtF (invalidSepF u.st.lit) msgSep u.st, ok := false } := by simp [p6T, Tree.get, e0, hok, l1, hv]
        refine ⟨_, e, u3.same rfl rfl rfl rfl, by simp [hv], fun h => (by cases h), fun _ => ?_, l1, l2, l3, l4, l5, l6, l7⟩
        show n.notes.length < (u.st.notes ++ [_]).length
        rw [u4 hok]; simp
      · exact same (by simp [p6T, Tree.get, e0, hok, l1, hv]) (by rw [← u1, hok]; simp [hv])
end Sc
end Go.Proofs.YtogkcphobhhbdaaDoor

/- Plain: numbers, whole. -/
namespace Go.Proofs.YtogkcphobhhbdaaDoor
open Go Go.RowKit Go.Lib
namespace Sc
open Ev
set_option maxRecDepth 100000
/-- What a number has come to: its end, whether it is good. -/
structure NumTo (src : ByteArray) (n : St) (q q2 : Nat) (ok : Bool) (kind : Int) (t : NumS) : Prop where
  std : Std src q2 t.st
  ok : t.ok = ok
  good : t.ok = true → t.st.notes = n.notes
  bad : t.ok = false → n.notes.length < t.st.notes.length
  lit : t.st.lit = src.extract q q2
  kind : t.st.kind = kind
  tok : t.st.tok = 3
  nl : t.st.nlsemi = true
  mode : t.st.mode = n.mode
  lc : t.st.line = n.line ∧ t.st.col = n.col
def numKind (pt : Bool) (ex : NumE) (im : Bool) : Int := if im = true then 2 else if pt = true ∨ ex.isSome = true then 1 else 0
theorem numTail_run {src : ByteArray} {n : St} {q q1 q2 : Nat} {s1 : NumS} {base pre : Int} {ok a b pt : Bool} {d2 : List Int} {ex : NumE} {im : Bool} (hb : baseOk base) (hI : NumI src n s1) (hN : Np src n q1 s1) (hF : Nf ok 0 base pre a b s1) (hse : s1.seen = pt) (hnb : n.b = some q)
    (hc : Cl src q1 (d2 ++ (exChars ex ++ imChars im)) q2) (hd2 : ∀ x ∈ d2, digU base x = true) (hpt : pt = false → d2 = []) (hw : ExWf ex) (hE : NumEnd src q2 ex im) (hxe : ∀ e sg ds, ex = some (e, sg, ds) → digU base e = false) :
    ∃ t, (numTail src True Tree.leaf s1).get numD = t ∧ NumTo src n q q2 (ok && (a || hasDg d2) && exOk pre pt ex && !(decide (numKind pt ex im = 0) && decide (0 ≤ s1.inv)) && !((b || hasSp d2 || exSp ex) && decide (0 ≤ invalidSepF (src.extract q q2)))) (numKind pt ex im) t := by
  obtain ⟨e1, i5⟩ := numTail_get hI
  obtain ⟨m, c1, c2⟩ := Cl.split hc
  have hend : s1.seen = true → EndOf (digU base) src m := fun _ => by
    have hu : ∀ r, (r = 105) → digU base r = false := fun r hr => by rcases hb with rfl | rfl | rfl | rfl <;> (subst hr; decide)
    cases ex with
    | some t =>
      obtain ⟨e, sg, ds⟩ := t
      have c2 : Cl src m (e :: (sg ++ ds ++ imChars im)) q2 := c2
      cases c2 with
      | cons k1 k2 => exact ⟨.inl ⟨_, _, k1⟩, fun r w hr => by rw [(hr.uniq k1).1]; exact hxe e sg ds rfl⟩
    | none =>
      cases im with
      | true =>
        cases c2 with
        | cons k1 k2 => exact ⟨.inl ⟨_, _, k1⟩, fun r w hr => by rw [(hr.uniq k1).1]; exact hu _ rfl⟩
      | false =>
        cases c2
        refine ⟨hE.cl, fun r w hr => ?_⟩
        have := hE.dec r w hr
        unfold digU
        split
        · exact this.1
        · exact this.2.1
  obtain ⟨n2, f2, v2⟩ := p2_cl hb hN hF c1 hd2 hend (fun h => hpt (by rw [← hse]; exact h))
  rw [hse] at f2 v2
  obtain ⟨n3, f3, v3⟩ := p3_cl n2 f2
  obtain ⟨m4, c4, n4, a4, f4, v4⟩ := p4_cl n3 f3 hw c2 hE
  obtain ⟨n5, f5, v5⟩ := p45_cl n4 f4 c4 hE
  obtain ⟨t, t0, t1, t2, t3, t4, t5, t6, t7, t8, t9, t10, t11⟩ := p56_cl n5 f5 i5 hnb
  refine ⟨t, e1.trans t0, ⟨t1, ?_, t3, t4, t5, t6, t7, t8, t9, t10, t11⟩⟩
  rw [t2]
  have hv : decide (numKind pt ex im = 0) = true → decide (0 ≤ ((p45T src ((p4T src True ((p3T ((p2T src s1).get numD)).get numD)).get numD)).get numD).inv) = decide (0 ≤ s1.inv) := fun h => by
    have hk := of_decide_eq_true h
    unfold numKind at hk
    have hp : pt = false := by
      cases pt with
      | false => rfl
      | true => cases im <;> simp at hk
    rw [v5, v4, v3, v2 hp]
  have hkd : (if im = true then (2 : Int) else if pt = true ∨ ex.isSome = true then 1 else 0) = numKind pt ex im := rfl
  rw [hkd]
  cases hk : decide (numKind pt ex im = 0) with
  | false => simp
  | true => rw [hv hk]
/-! The integer part. -/
def ptChars (pt : Bool) : List Int := if pt = true then [46] else []
theorem n1_cl {src : ByteArray} {n st' : St} {q1 q2 : Nat} {base pre d0 inv' : Int} {a0 a b pt : Bool} {rest : List Int} (hd0 : d0 = bitsOf a0 false) (h : At1 src q1 st') (hs : Sil src n st') (hc : Cl src q1 (ptChars pt ++ rest) q2) (hq : Cln src q2) (hno : pt = false → st'.ch ≠ 46) :
    ∃ m s, (n1T src base pre d0 (st', bitsOf a b, inv')).get numD = s ∧ Cl src m rest q2 ∧ Np src n m s ∧ Nf (!(pt && (decide (pre = 111) || decide (pre = 98)))) 0 base pre (a0 || a) b s ∧ s.inv = inv' ∧ s.seen = pt := by
  subst hd0
  cases pt with
  | false =>
    have n1 : (st'.ch == 46) = false := by simpa using hno rfl
    refine ⟨q1, { st := st', ok := true, kind := 0, base := base, pre := pre, dig := orI (bitsOf a0 false) (bitsOf a b), inv := inv', seen := false }, by simp [n1T, Tree.get, n1], hc, ⟨h, fun _ => hs.notes, fun h => by cases h⟩, ⟨by simp, rfl, rfl, rfl, by rw [or_bits]; simp⟩, rfl, rfl⟩
  | true =>
    have hc : Cl src q1 (46 :: rest) q2 := hc
    cases hc with
    | @cons _ w _ _ _ k1 k2 =>
    obtain ⟨_, rfl⟩ := k1.byte (by decide)
    obtain ⟨e, g1, g2⟩ := h.next k1 (by decide) (k2.cln hq)
    have e2 : Std src (q1 + 1) (nextch src (error msgRadix st')) ∧ (nextch src (error msgRadix st')).notes = (error msgRadix st').notes := by
      obtain ⟨_, y1, y2⟩ := (h.err msgRadix).next k1 (by decide) (k2.cln hq)
      exact ⟨y1.std, y2.notes⟩
    have g3 : At1 src (q1 + 1) (nextch src (error msgRadix st')) := ((h.err msgRadix).next k1 (by decide) (k2.cln hq)).2.1
    have n1 : (st'.ch == 46) = true := by simpa using e
    have hm : n.notes.length < (nextch src (error msgRadix st')).notes.length := by
      rw [e2.2]
      have := err_more msgRadix st'
      rw [hs.notes] at this
      exact this
    have bad : pre = 111 ∨ pre = 98 → ∃ m s, (n1T src base pre (bitsOf a0 false) (st', bitsOf a b, inv')).get numD = s ∧ Cl src m rest q2 ∧ Np src n m s ∧ Nf (!(true && (decide (pre = 111) || decide (pre = 98)))) 0 base pre (a0 || a) b s ∧ s.inv = inv' ∧ s.seen = true := fun hp => by
      refine ⟨q1 + 1, { st := nextch src (error msgRadix st'), ok := false, kind := 0, base := base, pre := pre, dig := orI (bitsOf a0 false) (bitsOf a b), inv := inv', seen := true }, ?_, k2, ⟨g3, fun h => (by cases h), fun _ => hm⟩, ⟨?_, rfl, rfl, rfl, by rw [or_bits]; simp⟩, rfl, rfl⟩
      · rcases hp with rfl | rfl
        · simp [n1T, Tree.get, n1]
        · simp [n1T, Tree.get, n1]
      · rcases hp with rfl | rfl <;> rfl
    by_cases h1 : pre = 111
    · exact bad (.inl h1)
    · by_cases h2 : pre = 98
      · exact bad (.inr h2)
      · have p1 : (pre == 111) = false := by simpa using h1
        have p2 : (pre == 98) = false := by simpa using h2
        refine ⟨q1 + 1, { st := nextch src st', ok := true, kind := 0, base := base, pre := pre, dig := orI (bitsOf a0 false) (bitsOf a b), inv := inv', seen := true }, by simp [n1T, Tree.get, n1, p1, p2], k2, ⟨g1, fun _ => by show (nextch src st').notes = _; rw [g2.notes, hs.notes], fun h => by cases h⟩, ⟨by simp [h1, h2], rfl, rfl, rfl, by rw [or_bits]; simp⟩, rfl, rfl⟩
/-- A number's parts, as they stand. -/
structure NumP where
  pre : Int
  pc : Int
  d1 : List Int
  pt : Bool
  d2 : List Int
  ex : NumE
  im : Bool
def NumP.base (P : NumP) : Int := if P.pre = 0 then 10 else if P.pre = 120 then 16 else if P.pre = 98 then 2 else 8
def NumP.head (P : NumP) : List Int := if P.pre = 0 then [] else if P.pre = 48 then [48] else [48, P.pc]
def NumP.tail (P : NumP) : List Int := ptChars P.pt ++ (P.d2 ++ (exChars P.ex ++ imChars P.im))
def NumP.chars (P : NumP) : List Int := P.head ++ (P.d1 ++ P.tail)
structure NumP.Wf (P : NumP) : Prop where
  pre : (P.pre = 0 ∧ ∃ c t, P.d1 = c :: t ∧ 49 ≤ c ∧ c ≤ 57) ∨ P.pre = 48 ∨ (P.pre = 120 ∧ (P.pc = 120 ∨ P.pc = 88)) ∨ (P.pre = 111 ∧ (P.pc = 111 ∨ P.pc = 79)) ∨ (P.pre = 98 ∧ (P.pc = 98 ∨ P.pc = 66))
  d1 : ∀ x ∈ P.d1, digU P.base x = true
  d2 : ∀ x ∈ P.d2, digU P.base x = true
  pt : P.pt = false → P.d2 = []
  ex : ExWf P.ex
  xe : ∀ e sg ds, P.ex = some (e, sg, ds) → digU P.base e = false
def NumP.kind (P : NumP) : Int := numKind P.pt P.ex P.im
def NumP.ok (P : NumP) (lit : ByteArray) : Bool :=
  !(P.pt && (decide (P.pre = 111) || decide (P.pre = 98))) && (decide (P.pre = 48) || hasDg P.d1 || hasDg P.d2) && exOk P.pre P.pt P.ex && !(decide (P.kind = 0) && (decide (P.base ≤ 10) && badDg (48 + P.base) P.d1)) && !((hasSp P.d1 || hasSp P.d2 || exSp P.ex) && decide (0 ≤ invalidSepF lit))
theorem NumP.Wf.baseOk {P : NumP} (h : P.Wf) : baseOk P.base := by
  unfold NumP.base Sc.baseOk
  rcases h.pre with ⟨h, _⟩ | h | ⟨h, _⟩ | ⟨h, _⟩ | ⟨h, _⟩ <;> rw [h] <;> decide
/-- Behind the first digits: what ends them. -/
theorem tail_end {src : ByteArray} {P : NumP} (hw : P.Wf) {m q2 : Nat} (h : Cl src m P.tail q2) (he : NumEnd src q2 P.ex P.im) : EndOf (digU P.base) src m ∧ ∀ st, Std src m st → (P.pt = false → st.ch ≠ 46) ∧ lowerF st.ch ≠ 120 ∧ lowerF st.ch ≠ 111 ∧ lowerF st.ch ≠ 98 := by
  have hb := hw.baseOk
  have hu : ∀ r, r = 105 ∨ r = 46 → digU P.base r = false := fun r hr => by
    rcases hb with e | e | e | e <;> rw [e] <;> (rcases hr with rfl | rfl <;> decide)
  have fin : Cl src m [] q2 → EndOf (digU P.base) src m ∧ ∀ st, Std src m st → (P.pt = false → st.ch ≠ 46) ∧ lowerF st.ch ≠ 120 ∧ lowerF st.ch ≠ 111 ∧ lowerF st.ch ≠ 98 := fun h => by
    cases h
    refine ⟨⟨he.cl, fun r w hr => ?_⟩, fun st hst => ?_⟩
    · have := he.dec r w hr
      unfold digU
      split
      · exact this.1
      · exact this.2.1
    · rcases hst.ch with k | ⟨_, k, _⟩
      · have := he.dec _ _ k
        exact ⟨fun _ => this.2.2.2.2.2.1, this.2.2.2.2.2.2⟩
      · rw [k]
        exact ⟨fun _ => by decide, low_eof.2.2⟩
  have one : ∀ (c : Int) (t : List Int), digU P.base c = false → lowerF c ≠ 120 ∧ lowerF c ≠ 111 ∧ lowerF c ≠ 98 → (P.pt = false → c ≠ 46) → Cl src m (c :: t) q2 → EndOf (digU P.base) src m ∧ ∀ st, Std src m st → (P.pt = false → st.ch ≠ 46) ∧ lowerF st.ch ≠ 120 ∧ lowerF st.ch ≠ 111 ∧ lowerF st.ch ≠ 98 := fun c t h1 h2 h3 h => by
    cases h with
    | cons k1 k2 =>
      refine ⟨⟨.inl ⟨_, _, k1⟩, fun r w hr => by rw [(hr.uniq k1).1]; exact h1⟩, fun st hst => ?_⟩
      rw [(hst.of k1).1]
      exact ⟨h3, h2⟩
  unfold NumP.tail at h
  cases hp : P.pt with
  | true =>
    rw [hp] at h one
    exact one 46 _ (hu 46 (.inr rfl)) (by decide +kernel) (fun h => by cases h) h
  | false =>
    rw [hp, hw.pt hp] at h
    rw [hp] at one fin
    have h : Cl src m (exChars P.ex ++ imChars P.im) q2 := h
    cases hx : P.ex with
    | some t =>
      obtain ⟨e, sg, ds⟩ := t
      rw [hx] at h
      have hwx := hw.ex
      rw [hx] at hwx
      have h : Cl src m (e :: (sg ++ ds ++ imChars P.im)) q2 := h
      obtain ⟨w1, _, _⟩ := hwx
      refine one e _ (hw.xe e sg ds hx) ?_ (fun _ => by omega) h
      rcases w1 with rfl | rfl | rfl | rfl <;> decide +kernel
    | none =>
      rw [hx] at h
      cases hi : P.im with
      | true =>
        rw [hi] at h
        exact one 105 _ (hu 105 (.inl rfl)) (by decide +kernel) (fun _ => by decide) h
      | false =>
        rw [hi] at h
        exact fin h
theorem pre2 {src : ByteArray} {n : St} {q m0 : Nat} {c : Int} (hn : At1 src q n) (c0 : Cl src q [48, c] m0) (hcl : Cln src m0) (hc : 60 < c ∧ c < 128) : (n.ch == 48) = true ∧ (nextch src n).ch = c ∧ At1 src m0 (nextch src (nextch src n)) ∧ Sil src n (nextch src (nextch src n)) ∧
    ((lowerF c = 101 ↔ c = 101 ∨ c = 69) ∧ (lowerF c = 112 ↔ c = 112 ∨ c = 80) ∧ (lowerF c = 120 ↔ c = 120 ∨ c = 88) ∧ (lowerF c = 111 ↔ c = 111 ∨ c = 79) ∧ (lowerF c = 98 ↔ c = 98 ∨ c = 66)) := by
  cases c0 with
  | @cons _ w _ _ _ k1 k2 =>
  cases k2 with
  | @cons _ w2 _ _ _ k3 k4 =>
  cases k4
  obtain ⟨_, rfl⟩ := k1.byte (by decide)
  obtain ⟨_, rfl⟩ := k3.byte (by omega)
  obtain ⟨e, g1, g2⟩ := hn.next k1 (by decide) (.inl ⟨_, _, k3⟩)
  obtain ⟨e', g3, g4⟩ := g1.next k3 (by omega) hcl
  exact ⟨by simpa using e, e', g3, g2.trans g4, low_of (by omega) (by omega)⟩
theorem num_run {src : ByteArray} {n : St} {q q2 : Nat} {P : NumP} (hw : P.Wf) (hn : At1 src q n) (hb : n.b = some q) (hc : Cl src q P.chars q2) (he : NumEnd src q2 P.ex P.im) : NumTo src n q q2 (P.ok (src.extract q q2)) P.kind (numS src false n) := by
  have hbase := hw.baseOk
  have hcln := he.cl
  unfold NumP.chars at hc
  obtain ⟨m0, c0, c1⟩ := Cl.split hc
  obtain ⟨m1, c2, c3⟩ := Cl.split c1
  obtain ⟨tE, tS⟩ := tail_end hw c3 he
  -- the first part
  have first : ∃ (r : St × Int × Int) (d0 : Int) (st1 : St), (p1FT src n).get numD = (n1T src P.base P.pre d0 r).get numD ∧ r = digitsF src P.base st1 (-1) ∧ d0 = bitsOf (decide (P.pre = 48)) false ∧ At1 src m0 st1 ∧ Sil src n st1 := by
    have behind : P.pre = 48 → ∀ st, Std src m0 st → lowerF st.ch ≠ 120 ∧ lowerF st.ch ≠ 111 ∧ lowerF st.ch ≠ 98 := fun hp st hst => by
      cases hd : P.d1 with
      | nil =>
        rw [hd] at c2
        cases c2
        exact (tS st hst).2
      | cons x t =>
        rw [hd] at c2
        cases c2 with
        | cons k1 k2 =>
          have hx := hw.d1 x (by rw [hd]; simp)
          have e8 : P.base = 8 := by unfold NumP.base; rw [hp]; decide
          rw [e8] at hx
          have hx : decU x = true := hx
          have := decU_in hx
          have hl := low_of (c := x) (by omega) (by omega)
          rw [(hst.of k1).1]
          omega
    rcases hw.pre with ⟨hp, c, t, hd, h49, h57⟩ | hp | ⟨hp, hpc⟩ | ⟨hp, hpc⟩ | ⟨hp, hpc⟩
    · have ch : P.head = [] := by unfold NumP.head; rw [if_pos hp]
      rw [ch] at c0
      cases c0
      have hch : n.ch ≠ 48 := by
        rw [hd] at c2
        cases c2 with
        | cons k1 k2 => rw [(hn.std.of k1).1]; omega
      have e48 : (n.ch == 48) = false := by simpa using hch
      have eb : P.base = 10 := by unfold NumP.base; rw [if_pos hp]
      refine ⟨_, 0, n, ?_, rfl, by rw [hp]; rfl, hn, Sil.refl _ _⟩
      simp only [p1FT, Tree.get, e48, Bool.false_eq_true, if_false, eb, hp]
    · have ch : P.head = [48] := by unfold NumP.head; rw [hp]; rfl
      rw [ch] at c0
      cases c0 with
      | @cons _ w _ _ _ k1 k2 =>
      cases k2
      obtain ⟨_, rfl⟩ := k1.byte (by decide)
      obtain ⟨e, g1, g2⟩ := hn.next k1 (by decide) (c1.cln hcln)
      obtain ⟨b1, b2, b3⟩ := behind hp _ g1.std
      have e48 : (n.ch == 48) = true := by simpa using e
      have x1 : (lowerF (nextch src n).ch == 120) = false := by simpa using b1
      have x2 : (lowerF (nextch src n).ch == 111) = false := by simpa using b2
      have x3 : (lowerF (nextch src n).ch == 98) = false := by simpa using b3
      have eb : P.base = 8 := by unfold NumP.base; rw [hp]; decide
      refine ⟨_, 1, nextch src n, ?_, rfl, by rw [hp]; rfl, g1, g2⟩
      simp only [p1FT, Tree.get, e48, x1, x2, x3, Bool.false_eq_true, if_false, if_true, eb, hp]
    · obtain ⟨e48, e', g3, g4, hl⟩ := pre2 hn (by rw [← show P.head = [48, P.pc] by unfold NumP.head; rw [hp]; rfl]; exact c0) (c1.cln hcln) (by omega)
      refine ⟨_, 0, nextch src (nextch src n), ?_, rfl, (by rw [hp]; rfl), g3, g4⟩
      have x1 : (lowerF (nextch src n).ch == 120) = true := by rw [e']; simpa using hl.2.2.1.2 hpc
      have eb : P.base = 16 := by unfold NumP.base; rw [hp]; decide
      simp only [p1FT, Tree.get, e48, x1, if_true, eb, hp]
    · obtain ⟨e48, e', g3, g4, hl⟩ := pre2 hn (by rw [← show P.head = [48, P.pc] by unfold NumP.head; rw [hp]; rfl]; exact c0) (c1.cln hcln) (by omega)
      refine ⟨_, 0, nextch src (nextch src n), ?_, rfl, (by rw [hp]; rfl), g3, g4⟩
      have x0 := hl.2.2.2.1.2 hpc
      have x1 : (lowerF (nextch src n).ch == 120) = false := by rw [e', x0]; rfl
      have x2 : (lowerF (nextch src n).ch == 111) = true := by rw [e', x0]; rfl
      have eb : P.base = 8 := by unfold NumP.base; rw [hp]; decide
      simp only [p1FT, Tree.get, e48, x1, x2, Bool.false_eq_true, if_false, if_true, eb, hp]
    · obtain ⟨e48, e', g3, g4, hl⟩ := pre2 hn (by rw [← show P.head = [48, P.pc] by unfold NumP.head; rw [hp]; rfl]; exact c0) (c1.cln hcln) (by omega)
      refine ⟨_, 0, nextch src (nextch src n), ?_, rfl, (by rw [hp]; rfl), g3, g4⟩
      have x0 := hl.2.2.2.2.2 hpc
      have x1 : (lowerF (nextch src n).ch == 120) = false := by rw [e', x0]; rfl
      have x2 : (lowerF (nextch src n).ch == 111) = false := by rw [e', x0]; rfl
      have x3 : (lowerF (nextch src n).ch == 98) = true := by rw [e', x0]; rfl
      have eb : P.base = 2 := by unfold NumP.base; rw [hp]; decide
      simp only [p1FT, Tree.get, e48, x1, x2, x3, Bool.false_eq_true, if_false, if_true, eb, hp]
  have h10 : n.ch ≠ 10 := by
    rcases hw.pre with ⟨hp, c, t, hd, h49, h57⟩ | hp
    · have ch : P.head = [] := by unfold NumP.head; rw [if_pos hp]
      rw [ch] at c0
      cases c0
      rw [hd] at c2
      cases c2 with
      | cons k1 k2 => rw [(hn.std.of k1).1]; omega
    · have ch : ∃ t, P.head = 48 :: t := by
        unfold NumP.head
        rcases hp with hp | ⟨hp, _⟩ | ⟨hp, _⟩ | ⟨hp, _⟩ <;> rw [hp] <;> exact ⟨_, rfl⟩
      obtain ⟨t, ch⟩ := ch
      rw [ch] at c0
      cases c0 with
      | cons k1 k2 => rw [(hn.std.of k1).1]; decide
  have hsat := p1FT_sat hn.off h10
  have hI := get_of_sat (d := numD) hsat
  obtain ⟨r, d0, st1, f1, f2, f3, f4, f5⟩ := first
  obtain ⟨st2, inv2, k1, k2, k3, k4⟩ := digits_cl hbase c2 (-1) hw.d1 tE f4
  rw [f2, k1] at f1
  obtain ⟨m2, s, j1, j2, j3, j4, j5, j6⟩ := n1_cl (n := n) (base := P.base) (pre := P.pre) (d0 := d0) (inv' := inv2) (a0 := decide (P.pre = 48)) (a := hasDg P.d1) (b := hasSp P.d1) (pt := P.pt) f3 k2 (f5.trans k3) c3 hcln (fun h => (tS st2 k2.std).1 h)
  rw [j1] at f1
  rw [f1] at hI
  obtain ⟨t, t1, t2⟩ := numTail_run hbase hI j3 j4 j6 hb j2 hw.d2 hw.pt hw.ex he hw.xe
  have e : numS src false n = t := by
    unfold numS numTree
    rw [if_neg (by simp), get_bind hsat _ _ numD, f1]
    exact t1
  rw [e]
  have hok : (!(P.pt && (decide (P.pre = 111) || decide (P.pre = 98))) && (decide (P.pre = 48) || hasDg P.d1 || hasDg P.d2) && exOk P.pre P.pt P.ex && !(decide (numKind P.pt P.ex P.im = 0) && decide (0 ≤ s.inv)) && !((hasSp P.d1 || hasSp P.d2 || exSp P.ex) && decide (0 ≤ invalidSepF (src.extract q q2)))) = P.ok (src.extract q q2) := by
    have hi : decide (0 ≤ s.inv) = (decide (P.base ≤ 10) && badDg (48 + P.base) P.d1) := by
      rw [j5]
      rw [if_pos (by decide)] at k4
      by_cases hx : P.base ≤ 10 ∧ badDg (48 + P.base) P.d1 = true
      · rw [if_pos hx] at k4
        simp [hx.1, hx.2, k4]
      · rw [if_neg hx] at k4
        rw [k4]
        have : (decide (P.base ≤ 10) && badDg (48 + P.base) P.d1) = false := by
          cases h2 : badDg (48 + P.base) P.d1 with
          | false => simp
          | true =>
            have : ¬ P.base ≤ 10 := fun h => hx ⟨h, h2⟩
            simp [this]
        rw [this]; rfl
    unfold NumP.ok NumP.kind
    rw [hi]
  rw [hok] at t2
  exact t2
/-- A number that begins with a point. -/
theorem num_run_pt {src : ByteArray} {n : St} {q q1 q2 : Nat} {d2 : List Int} {ex : NumE} {im : Bool} (hn : At1 src q1 n) (hb : n.b = some q) (h10 : n.ch ≠ 10) (hc : Cl src q1 (d2 ++ (exChars ex ++ imChars im)) q2) (hd2 : ∀ x ∈ d2, decU x = true) (hw : ExWf ex) (he : NumEnd src q2 ex im) :
    NumTo src n q q2 (hasDg d2 && exOk 0 true ex && !((hasSp d2 || exSp ex) && decide (0 ≤ invalidSepF (src.extract q q2)))) (numKind true ex im) (numS src true n) := by
  have hb10 : baseOk 10 := .inr (.inr (.inl rfl))
  have hI : NumI src n (p1TF n) := ⟨hb10, hn.off, .inl (by show (-1 : Int) < 0; decide), On.refl _ _⟩
  have hxe : ∀ e sg ds, ex = some (e, sg, ds) → digU 10 e = false := fun e sg ds hx => by
    rw [hx] at hw
    obtain ⟨w, _⟩ := hw
    rcases w with rfl | rfl | rfl | rfl <;> decide
  obtain ⟨t, t1, t2⟩ := numTail_run (s1 := p1TF n) (ok := true) (a := false) (b := false) (pre := 0) (pt := true) hb10 hI ⟨hn, fun _ => rfl, fun h => by cases h⟩ ⟨rfl, rfl, rfl, rfl, rfl⟩ rfl hb hc hd2 (fun h => by cases h) hw he hxe
  have e : numS src true n = t := by
    unfold numS numTree
    rw [if_pos rfl]
    exact t1
  rw [e]
  have hk : decide (numKind true ex im = 0) = false := by
    unfold numKind
    cases im <;> simp
  rw [hk] at t2
  simpa using t2
end Sc
end Go.Proofs.YtogkcphobhhbdaaDoor

/- Plain: runs of digits with low lines between; separators. -/
namespace Go.Proofs.YtogkcphobhhbdaaDoor
open Go Go.RowKit Go.Lib
namespace Sc
open Ev
set_option maxRecDepth 100000
/-- A text's bytes. -/
def bts (s : ByteArray) : List Int := s.data.toList.map fun b => ((b.toNat : Nat) : Int)
theorem bts_len (s : ByteArray) : (bts s).length = s.size := by unfold bts; rw [List.length_map]; exact size_toList s
theorem bts_get {s : ByteArray} {j : Nat} (h : j < s.size) : (bts s)[j]? = some (((s.get! j).toNat : Nat) : Int) := by
  have hl : j < s.data.toList.length := by rw [size_toList]; exact h
  rw [get_list, List.getD_eq_getElem?_getD]
  unfold bts
  rw [List.getElem?_map, List.getElem?_eq_getElem hl]
  rfl
theorem bts_in (s : ByteArray) : ∀ x ∈ bts s, 0 ≤ x ∧ x < 256 := fun x hx => by
  obtain ⟨b, _, rfl⟩ := List.mem_map.1 hx
  have := b.toNat_lt
  omega
theorem bts_app (a b : ByteArray) : bts (a ++ b) = bts a ++ bts b := by unfold bts; rw [app_list, List.map_append]
theorem bts_drop_cons {s : ByteArray} {j : Nat} (h : j < s.size) : (bts s).drop j = (((s.get! j).toNat : Nat) : Int) :: (bts s).drop (j + 1) := by
  have hg := bts_get h
  have hl : j < (bts s).length := by rw [bts_len]; exact h
  rw [List.drop_eq_getElem_cons hl]
  rw [List.getElem?_eq_getElem hl] at hg
  simp only [Option.some.injEq] at hg
  rw [hg]
theorem bts_extract (s : ByteArray) (i j : Nat) (hj : j ≤ s.size) : bts (s.extract i j) = ((bts s).drop i).take (j - i) := by
  refine List.ext_getElem? (fun k => ?_)
  have hsz := extract_size s i j hj
  by_cases hk : k < j - i
  · rw [bts_get (by omega), extract_get s i j k hj hk, List.getElem?_take, if_pos hk, List.getElem?_drop, bts_get (by omega)]
  · rw [List.getElem?_eq_none (by rw [bts_len]; omega), List.getElem?_take, if_neg hk]
/-! Separators. -/
def sepL (hex : Bool) : Int → List Int → Option Int
  | d, [] => some d
  | d, c :: t => if c = 95 then (if d ≠ 48 then none else sepL hex 95 t) else if isDecimalF c = true ∨ (hex = true ∧ isHexF c = true) then sepL hex 48 t else if d = 95 then none else sepL hex 46 t
theorem sepL_app (hex : Bool) : ∀ (a b : List Int) (d : Int), sepL hex d (a ++ b) = (sepL hex d a).bind fun d' => sepL hex d' b
  | [], b, d => rfl
  | c :: a, b, d => by
    simp only [List.cons_append, sepL]
    split
    · split
      · rfl
      · exact sepL_app hex a b 95
    · split
      · exact sepL_app hex a b 48
      · split
        · rfl
        · exact sepL_app hex a b 46
theorem sepLF_eq {s : ByteArray} {x1 : Int} (hs : s.size ≤ 100000) (d : Int) (i : Nat) : sepLF s x1 (d, i) =
    if i < s.size then (if chAt s i = 95 then (if d ≠ 48 then (0, some (i : Int)) else sepLF s x1 (95, (i + 1 : Nat)))
      else if isDecimalF (chAt s i) = true ∨ (x1 = 120 ∧ isHexF (chAt s i) = true) then sepLF s x1 (48, (i + 1 : Nat)) else if d = 95 then (0, some (IntKind.i64.wrap ((i : Int) - 1))) else sepLF s x1 (46, (i + 1 : Nat))) else (d, none) := by
  have hI : ∀ a, sepI s a → (sepB s x1 a).sat (Falls (sepI s) (sepM s) a) := fun a ha => sat_mono (sepB_on s x1 a ha) (fun st hs => by
    cases st with
    | go a' => exact hs
    | out q => trivial)
  by_cases hi : i < s.size
  · have hw : IntKind.i64.wrap ((i : Int) + 1) = ((i + 1 : Nat) : Int) := by rw [show (i : Int) + 1 = ((i + 1 : Nat) : Int) by omega]; exact i64_small (by omega) (by omega)
    rw [if_pos hi]
    unfold sepLF
    rw [runF_step hI ⟨by omega, by show (0 : Int) ≤ (i : Int); omega⟩ (.out (0, none))]
    have hlt : ((i : Int) < (s.size : Int)) := by omega
    unfold sepB
    by_cases h1 : chAt s i = 95
    · by_cases h2 : d = 48
      · simp [Tree.get, stepF, hlt, h1, h2, hw]
      · simp [Tree.get, stepF, hlt, h1, h2]
    · cases h3 : isDecimalF (chAt s i)
      · by_cases h4 : x1 = 120
        · cases h5 : isHexF (chAt s i)
          · by_cases h6 : d = 95
            · simp [Tree.get, stepF, hlt, h1, h3, h4, h5, h6]
            · simp [Tree.get, stepF, hlt, h1, h3, h4, h5, h6, hw]
          · simp [Tree.get, stepF, hlt, h1, h3, h4, h5, hw]
        · by_cases h6 : d = 95
          · simp [Tree.get, stepF, hlt, h1, h3, h4, h6]
          · simp [Tree.get, stepF, hlt, h1, h3, h4, h6, hw]
      · simp [Tree.get, stepF, hlt, h1, h3, hw]
  · rw [if_neg hi]
    unfold sepLF
    rw [runF_step hI ⟨by omega, by show (0 : Int) ≤ (i : Int); omega⟩ (.out (0, none))]
    have hlt : ¬ ((i : Int) < (s.size : Int)) := by omega
    unfold sepB
    simp [Tree.get, stepF, hlt]
theorem chAt_get {s : ByteArray} {i : Nat} : chAt s i = ((s.get! i).toNat : Int) := by
  unfold chAt
  have := (s.get! i).toNat_lt
  rw [Int.toNat_natCast, IntKind.wrap_i32]
  omega
/-- Separators that are all right. -/
def sepGood (r : Option Int) : Prop := ∃ d, r = some d ∧ d ≠ 95
theorem sepEnd_ok {s : ByteArray} {x1 : Int} (hs : s.size ≤ 100000) : ∀ (n i : Nat) (d : Int), s.size ≤ i + n → i ≤ s.size → (d = 95 → 1 ≤ i) → (sepEnd s (sepLF s x1 (d, i)) < 0 ↔ sepGood (sepL (decide (x1 = 120)) d ((bts s).drop i))) ∧ (¬ sepEnd s (sepLF s x1 (d, i)) < 0 → 0 ≤ sepEnd s (sepLF s x1 (d, i)))
  | 0, i, d, h1, h2, h3 => by
    have : i = s.size := by omega
    subst this
    rw [sepLF_eq hs, if_neg (by omega), List.drop_eq_nil_of_le (by rw [bts_len]; omega)]
    unfold sepEnd
    simp only [sepL]
    by_cases hd : d = 95
    · have := h3 hd
      have hw := i64_small (n := (s.size : Int) - 1) (by omega) (by omega)
      rw [if_pos hd, hw]
      refine ⟨⟨fun h => by omega, fun ⟨d', h, h'⟩ => ?_⟩, fun _ => by omega⟩
      simp only [Option.some.injEq] at h
      omega
    · rw [if_neg hd]
      exact ⟨⟨fun _ => ⟨d, rfl, hd⟩, fun _ => by decide⟩, fun h => absurd (by decide) h⟩
  | n + 1, i, d, h1, h2, h3 => by
    by_cases hi : i < s.size
    · rw [sepLF_eq hs, if_pos hi, bts_drop_cons hi, chAt_get]
      simp only [sepL]
      generalize ((s.get! i).toNat : Int) = c
      by_cases c1 : c = 95
      · rw [if_pos c1, if_pos c1]
        by_cases c2 : d = 48
        · rw [if_neg (by simp [c2]), if_neg (by simp [c2])]
          exact sepEnd_ok hs n (i + 1) 95 (by omega) (by omega) (fun _ => by omega)
        · rw [if_pos c2, if_pos c2]
          show ((i : Int) < 0 ↔ _) ∧ (¬ (i : Int) < 0 → 0 ≤ (i : Int))
          exact ⟨⟨fun h => by omega, fun ⟨d', h, _⟩ => by cases h⟩, fun h => by omega⟩
      · rw [if_neg c1, if_neg c1]
        by_cases c3 : isDecimalF c = true ∨ (x1 = 120 ∧ isHexF c = true)
        · rw [if_pos c3, if_pos (by simpa using c3)]
          exact sepEnd_ok hs n (i + 1) 48 (by omega) (by omega) (fun h => by cases h)
        · have c3' : ¬ (isDecimalF c = true ∨ decide (x1 = 120) = true ∧ isHexF c = true) := by simpa using c3
          rw [if_neg c3, if_neg c3']
          by_cases c4 : d = 95
          · have := h3 c4
            rw [if_pos c4, if_pos c4, i64_small (n := (i : Int) - 1) (by omega) (by omega)]
            show ((i : Int) - 1 < 0 ↔ _) ∧ (¬ (i : Int) - 1 < 0 → 0 ≤ (i : Int) - 1)
            exact ⟨⟨fun h => by omega, fun ⟨d', h, _⟩ => by cases h⟩, fun h => by omega⟩
          · rw [if_neg c4, if_neg c4]
            exact sepEnd_ok hs n (i + 1) 46 (by omega) (by omega) (fun h => by cases h)
    · exact sepEnd_ok hs 0 i d (by omega) h2 h3
def preL (c : Int) : Bool := decide (lowerF c = 120 ∨ lowerF c = 111 ∨ lowerF c = 98)
/-- The separators of a number's text. -/
def sepT : List Int → Option Int
  | 48 :: c :: t => if preL c = true then sepL (decide (lowerF c = 120)) 48 t else sepL false 46 (48 :: c :: t)
  | l => sepL false 46 l
theorem invalidSep_ok {s : ByteArray} (hs : s.size ≤ 100000) : (invalidSepF s < 0 ↔ sepGood (sepT (bts s))) ∧ (¬ invalidSepF s < 0 → 0 ≤ invalidSepF s) := by
  have k := fun x1 => sepEnd_ok (s := s) (x1 := x1) hs s.size 0 46 (by omega) (Nat.zero_le _) (fun h => by cases h)
  unfold invalidSepF
  by_cases h : 2 ≤ s.size ∧ (s.get! 0).toNat = 48
  · rw [if_pos h]
    have e0 := bts_drop_cons (s := s) (j := 0) (by omega)
    have e1 := bts_drop_cons (s := s) (j := 1) (by omega)
    rw [List.drop_zero] at e0
    rw [h.2] at e0
    have hc : chAt s 1 = ((s.get! 1).toNat : Int) := chAt_get (i := 1)
    have e : bts s = 48 :: ((s.get! 1).toNat : Int) :: (bts s).drop 2 := by rw [e0, e1]; rfl
    rw [e]
    simp only [sepT]
    rw [hc]
    generalize hcc : ((s.get! 1).toNat : Int) = c at *
    have hc256 : 0 ≤ c ∧ c < 256 := by have := (s.get! 1).toNat_lt; omega
    by_cases hp : lowerF c = 120 ∨ lowerF c = 111 ∨ lowerF c = 98
    · rw [if_pos hp, if_pos (by unfold preL; exact decide_eq_true hp)]
      exact sepEnd_ok hs s.size 2 48 (by omega) (by omega) (fun h => by cases h)
    · rw [if_neg hp, if_neg (by unfold preL; simp [hp])]
      have := k (lowerF c)
      rw [List.drop_zero, e, show decide (lowerF c = 120) = false by simp; omega] at this
      exact this
  · rw [if_neg h]
    have := k 32
    rw [List.drop_zero] at this
    have e : sepT (bts s) = sepL false 46 (bts s) := by
      have hl := bts_len s
      match hb : bts s with
      | [] => rfl
      | [c] =>
      unfold sepT
      split
      · rename_i heq; simp at heq
      · rfl
      | c :: c2 :: t =>
        by_cases hc : c = 48
        · exfalso
          apply h
          rw [hb] at hl
          simp only [List.length_cons] at hl
          refine ⟨by omega, ?_⟩
          have := bts_get (s := s) (j := 0) (by omega)
          rw [hb] at this
          simp only [List.getElem?_cons_zero, Option.some.injEq] at this
          omega
        · unfold sepT
          split
          · rename_i heq
            simp only [List.cons.injEq] at heq
            exact absurd heq.1 hc
          · rfl
    rw [e]
    exact this
/-! Runs. -/
/-- Digits, single low lines between; whether a digit stands ahead of it. -/
def runA (D : Int → Bool) : Bool → List Int → Bool
  | prev, [] => prev
  | prev, c :: t => if c = 95 then prev && runA D false t else D c && runA D true t
theorem runA_all {D : Int → Bool} : ∀ {l : List Int} {prev : Bool}, runA D prev l = true → ∀ x ∈ l, D x = true ∨ x = 95
  | [], _, _, x, hx => absurd hx List.not_mem_nil
  | c :: t, prev, h, x, hx => by
    simp only [runA] at h
    split at h
    · simp only [Bool.and_eq_true] at h
      rename_i hc
      rcases List.mem_cons.1 hx with rfl | hx
      · exact .inr hc
      · exact runA_all h.2 x hx
    · simp only [Bool.and_eq_true] at h
      rcases List.mem_cons.1 hx with rfl | hx
      · exact .inl h.1
      · exact runA_all h.2 x hx
theorem runA_dg {D : Int → Bool} : ∀ {l : List Int}, runA D false l = true → hasDg l = true
  | [], h => by cases h
  | c :: t, h => by
    simp only [runA] at h
    split at h
    · simp at h
    · rename_i hc; simp [hasDg, hc]
theorem runA_sep {hex : Bool} {D : Int → Bool} (hD : ∀ x, D x = true → isDecimalF x = true ∨ (hex = true ∧ isHexF x = true)) : ∀ {l : List Int} {prev : Bool} {d : Int}, runA D prev l = true → (prev = true → d = 48) → sepL hex d l = some 48
  | [], prev, d, h, hp => by
    simp only [runA] at h
    rw [hp h]; rfl
  | c :: t, prev, d, h, hp => by
    simp only [runA] at h
    simp only [sepL]
    split at h
    · rename_i hc
      simp only [Bool.and_eq_true] at h
      rw [if_pos hc, if_neg (by simp [hp h.1])]
      exact runA_sep hD h.2 (fun h => by cases h)
    · rename_i hc
      simp only [Bool.and_eq_true] at h
      rw [if_neg hc, if_pos (hD c h.1)]
      exact runA_sep hD h.2 (fun _ => rfl)
theorem runA_true {D : Int → Bool} {l : List Int} (h : runA D false l = true) : ∃ c t, l = c :: t ∧ D c = true ∧ c ≠ 95 ∧ runA D true t = true := by
  cases l with
  | nil => cases h
  | cons c t =>
    simp only [runA] at h
    split at h
    · simp at h
    · rename_i hc
      simp only [Bool.and_eq_true] at h
      exact ⟨c, t, rfl, h.1, hc, h.2⟩
end Sc
end Go.Proofs.YtogkcphobhhbdaaDoor

/- spec.allOf walked. -/
namespace Go.Proofs.YtogkcphobhhbdaaDoor
open Go Go.RowKit Go.Lib
namespace Sc
open Ev
set_option maxRecDepth 100000
/-- A byte is among others. -/
def inByte (b : ByteArray) (x : UInt8) : Bool := decide (0 ≤ Lib.indexByte b.data.toList x)
/-- All bytes from a place on are among others. -/
def allN (s b : ByteArray) : Nat → Nat → Bool
  | 0, _ => true
  | n + 1, i => if i < s.size then (if inByte b (s.get! i) = true then allN s b n (i + 1) else false) else true
/-- Known slots of a frame of 20. -/
structure SO (v0 v1 vi : Value) (a : Act) : Prop where
  defers : a.defers = []
  size : a.tmps.size = 20
  s0 : a.tmps[0]? = some v0
  s1 : a.tmps[1]? = some v1
  s5 : a.tmps[5]? = some vi
theorem SO.lit {v0 v1 vi : Value} {a : Act} (h : SO v0 v1 vi a) : ∃ x : Nat → Value, a = { tmps := #[v0, v1, x 2, x 3, x 4, vi, x 6, x 7, x 8, x 9, x 10, x 11, x 12, x 13, x 14, x 15, x 16, x 17, x 18, x 19], defers := [] } := by
  refine ⟨fun i => a.tmps.getD i undef, ?_⟩
  obtain ⟨t, d⟩ := a
  obtain ⟨h1, h2, k0, k1, k5⟩ := h
  simp only at h1 h2 k0 k1 k5
  subst h1
  have e0 : t.getD 0 undef = v0 := by rw [Array.getD_eq_getD_getElem?, k0]; rfl
  have e1 : t.getD 1 undef = v1 := by rw [Array.getD_eq_getD_getElem?, k1]; rfl
  have e5 : t.getD 5 undef = vi := by rw [Array.getD_eq_getD_getElem?, k5]; rfl
  have ht := tmpsN 20 t h2
  rw [← e0, ← e1, ← e5]
  exact congrArg (fun t => ({ tmps := t, defers := [] } : Act)) ht
theorem SO.of {v0 v1 vi : Value} (x : Nat → Value) : SO v0 v1 vi { tmps := #[v0, v1, x 2, x 3, x 4, vi, x 6, x 7, x 8, x 9, x 10, x 11, x 12, x 13, x 14, x 15, x 16, x 17, x 18, x 19], defers := [] } := ⟨rfl, rfl, rfl, rfl, rfl⟩
noncomputable abbrev aoBody : Code := bodyOf Tryd.f32
noncomputable abbrev aoLoop : Code := loopOf (blkOf aoBody 0)
theorem get_bang (s : ByteArray) (i : Nat) (h : i < s.size) : s.get! i = s[i] := by
  simp [ByteArray.get!, getElem!_pos, h]
  rfl
theorem ao_round {w : World} {s b : ByteArray} {i : Nat} (hs : s.size ≤ 1000000) (hi : i < s.size) (a : Act) (hz : SO (.string s) (.string b) (.int .i64 i) a) (Q : Exit → Act → World → Prop)
    (h1 : inByte b (s.get! i) = true → ∀ a', SO (.string s) (.string b) (.int .i64 (i + 1 : Nat)) a' → Q .normal a' w)
    (h2 : inByte b (s.get! i) = false → ∀ a', a'.defers = [] → a'.tmps[4]? = some (.bool false) → Q .ret a' w) : aoLoop.wp Tryd.prog Q a w := by
  obtain ⟨x, rfl⟩ := hz.lit
  clear hz
  have hi0 : (0 : Int) ≤ (i : Int) := by omega
  have hi1 : (i : Int) < (s.size : Int) := by omega
  have hI := fun c => indexByte_walk w b c
  simp only [aoLoop, aoBody, bodyOf, Tryd.f32, Option.getD, blkOf, loopOf, cond, Nat.beq]
  go_wp2_with (go_at_call 18; refine (hI _).mono ?_; rintro en w2 ⟨rfl, rfl⟩)
  · rename_i h
    exact h2 (by rw [get_bang s i hi]; unfold inByte; simp; omega) _ rfl rfl
  · rename_i h
    exact h1 (by rw [get_bang s i hi]; unfold inByte; simp; omega) _ ⟨rfl, rfl, rfl, rfl, rfl⟩
theorem ao_out {w : World} {s b : ByteArray} (a : Act) (hz : SO (.string s) (.string b) (.int .i64 s.size) a) (Q : Exit → Act → World → Prop)
    (hQ : ∀ a', SO (.string s) (.string b) (.int .i64 s.size) a' → Q (.exit 0) a' w) : aoLoop.wp Tryd.prog Q a w := by
  obtain ⟨x, rfl⟩ := hz.lit
  clear hz
  simp only [aoLoop, aoBody, bodyOf, Tryd.f32, Option.getD, blkOf, loopOf, cond, Nat.beq]
  have hlt : ¬ ((s.size : Int) < (s.size : Int)) := by omega
  go_wp2_with fail
  exact ⟨rfl, rfl, rfl, rfl, rfl⟩
theorem ao_loop {w : World} {s b : ByteArray} (hs : s.size ≤ 1000000) (Q : Exit → Act → World → Prop) : ∀ (d i : Nat) (a : Act), i + d = s.size → SO (.string s) (.string b) (.int .i64 i) a →
      (allN s b d i = true → ∀ a, SO (.string s) (.string b) (.int .i64 s.size) a → Q .normal a w) →
      (allN s b d i = false → ∀ a, a.defers = [] → a.tmps[4]? = some (.bool false) → Q .ret a w) →
      Code.rounds Tryd.prog aoLoop (Exit.inBlock 0 Q) (d + 1) a w
  | 0, i, a, hi, hz, h1, h2 => by
    have hi : i = s.size := by omega
    subst hi
    rw [rounds_succ]
    exact ao_out a hz _ (fun a' z' => h1 rfl a' z')
  | d + 1, i, a, hi, hz, h1, h2 => by
    rw [rounds_succ]
    simp only [allN, if_pos (show i < s.size by omega)] at h1 h2
    refine ao_round hs (by omega) a hz _ (fun hb a' z' => ?_) (fun hb a' d0 d4 => ?_)
    · rw [if_pos hb] at h1 h2
      exact ao_loop hs Q d (i + 1) a' (by omega) z' h1 h2
    · rw [if_neg (by rw [hb]; simp)] at h2
      exact h2 rfl a' d0 d4
noncomputable abbrev aoP (n : Nat) : Code := fstC (cutTail n aoBody)
theorem ao_body : (Tryd.f32).body = some (.seq (aoP 0) (.seq (.seq (fstC (aoP 1)) (.block 0 (.loop aoLoop))) (cutTail 2 aoBody))) := by kernel_rfl
theorem ao_first {w : World} {s b : ByteArray} (B C : Code) (Q : Exit → Act → World → Prop)
    (hQ : ∀ a, SO (.string s) (.string b) (.int .i64 (0 : Nat)) a → B.wp Tryd.prog (Exit.then (fun a w => C.wp Tryd.prog Q a w) Q) a w) :
    (Code.seq (aoP 0) (.seq (.seq (fstC (aoP 1)) B) C)).wp Tryd.prog Q { tmps := #[.string s, .string b] ++ Array.replicate 18 undef, defers := [] } w := by
  simp only [aoP, fstC, aoBody, bodyOf, Tryd.f32, Option.getD, cutTail, cutN, Option.map, Array.replicate_succ, Array.replicate_zero, List.push_toArray, List.append_toArray, List.nil_append, List.cons_append]
  go_wp2_with fail
  rename_i K hK
  refine Code.wp_mono (fun e a w h => ?_) (hQ _ ⟨rfl, rfl, rfl, rfl, rfl⟩)
  cases e <;> first | exact hK _ _ h | exact h
theorem ao_last {w : World} {s b : ByteArray} {v : Value} (a : Act) (hz : SO (.string s) (.string b) v a) (Q : Exit → Act → World → Prop)
    (hQ : ∀ a', a'.defers = [] → a'.tmps[4]? = some (.bool (!s.toList.isEmpty)) → Q .ret a' w) : (cutTail 2 aoBody).wp Tryd.prog Q a w := by
  obtain ⟨x, rfl⟩ := hz.lit
  clear hz
  simp only [aoBody, bodyOf, Tryd.f32, Option.getD, cutTail, cutN, Option.map]
  go_wp2_with fail
  exact hQ _ rfl rfl
/-- allOf. -/
def allOfF (s b : ByteArray) : Bool := allN s b s.size 0 && !s.toList.isEmpty
theorem allOf_walk (w : World) (s b : ByteArray) (hs : s.size ≤ 1000000) : Calls Tryd.prog 32 #[.string s, .string b] w fun e w' => e = .returned (.bool (allOfF s b)) ∧ w' = w := by
  refine calls_of_wp Tryd.func32 ao_body ?_
  have hnt : (Tryd.f32).ntmps - (#[.string s, .string b] : Array Value).size = 18 := by kernel_rfl
  rw [hnt]
  refine ao_first _ _ _ (fun a z => ?_)
  refine wp_block (wp_loop_rounds (s.size + 1) ?_)
  refine ao_loop hs _ s.size 0 a (by omega) z (fun hf a2 z2 => ?_) (fun hf a2 d0 d4 => ?_)
  · show (cutTail 2 aoBody).wp _ _ a2 w
    exact ao_last a2 z2 _ (fun a3 d0 d4 => ⟨d0, _, one_res (k := 4) (by kernel_rfl) d4, by unfold allOfF; rw [hf]; rfl, rfl⟩)
  · exact ⟨d0, _, one_res (k := 4) (by kernel_rfl) d4, by unfold allOfF; rw [hf]; rfl, rfl⟩
end Sc
end Go.Proofs.YtogkcphobhhbdaaDoor

/- spec.valueOf walked. -/
namespace Go.Proofs.YtogkcphobhhbdaaDoor
open Go Go.RowKit Go.Lib
namespace Sc
open Ev
set_option maxRecDepth 100000
/-- Known slots of a frame of 30. -/
structure SV6 (v0 v1 va vi : Value) (a : Act) : Prop where
  defers : a.defers = []
  size : a.tmps.size = 30
  s0 : a.tmps[0]? = some v0
  s1 : a.tmps[1]? = some v1
  s5 : a.tmps[5]? = some va
  s6 : a.tmps[6]? = some vi
theorem SV6.lit {v0 v1 va vi : Value} {a : Act} (h : SV6 v0 v1 va vi a) : ∃ x : Nat → Value, a = { tmps := #[v0, v1, x 2, x 3, x 4, va, vi, x 7, x 8, x 9, x 10, x 11, x 12, x 13, x 14, x 15, x 16, x 17, x 18, x 19, x 20, x 21, x 22, x 23, x 24, x 25, x 26, x 27, x 28, x 29], defers := [] } := by
  refine ⟨fun i => a.tmps.getD i undef, ?_⟩
  obtain ⟨t, d⟩ := a
  obtain ⟨h1, h2, k0, k1, k5, k6⟩ := h
  simp only at h1 h2 k0 k1 k5 k6
  subst h1
  have e0 : t.getD 0 undef = v0 := by rw [Array.getD_eq_getD_getElem?, k0]; rfl
  have e1 : t.getD 1 undef = v1 := by rw [Array.getD_eq_getD_getElem?, k1]; rfl
  have e5 : t.getD 5 undef = va := by rw [Array.getD_eq_getD_getElem?, k5]; rfl
  have e6 : t.getD 6 undef = vi := by rw [Array.getD_eq_getD_getElem?, k6]; rfl
  have ht := tmpsN 30 t h2
  rw [← e0, ← e1, ← e5, ← e6]
  exact congrArg (fun t => ({ tmps := t, defers := [] } : Act)) ht
theorem SV6.of {v0 v1 va vi : Value} (x : Nat → Value) : SV6 v0 v1 va vi { tmps := #[v0, v1, x 2, x 3, x 4, va, vi, x 7, x 8, x 9, x 10, x 11, x 12, x 13, x 14, x 15, x 16, x 17, x 18, x 19, x 20, x 21, x 22, x 23, x 24, x 25, x 26, x 27, x 28, x 29], defers := [] } := ⟨rfl, rfl, rfl, rfl, rfl, rfl⟩
end Sc
end Go.Proofs.YtogkcphobhhbdaaDoor

/- spec.Escape walked: its tail. -/
namespace Go.Proofs.YtogkcphobhhbdaaDoor
open Go Go.RowKit Go.Lib
namespace Sc
open Ev
set_option maxRecDepth 100000
def octB : ByteArray := ⟨#[48, 49, 50, 51, 52, 53, 54, 55]⟩
def hexB : ByteArray := ⟨#[48, 49, 50, 51, 52, 53, 54, 55, 56, 57, 97, 98, 99, 100, 101, 102, 65, 66, 67, 68, 69, 70]⟩
/-- Known slots of a frame of 99. -/
structure SX5 (v0 v1 vs vb vd : Value) (a : Act) : Prop where
  defers : a.defers = []
  size : a.tmps.size = 99
  s0 : a.tmps[0]? = some v0
  s1 : a.tmps[1]? = some v1
  s5 : a.tmps[5]? = some vs
  s6 : a.tmps[6]? = some vb
  s7 : a.tmps[7]? = some vd
theorem SX5.lit {v0 v1 vs vb vd : Value} {a : Act} (h : SX5 v0 v1 vs vb vd a) : ∃ x : Nat → Value, a = { tmps := #[v0, v1, x 2, x 3, x 4, vs, vb, vd, x 8, x 9, x 10, x 11, x 12, x 13, x 14, x 15, x 16, x 17, x 18, x 19, x 20, x 21, x 22, x 23, x 24, x 25, x 26, x 27, x 28, x 29, x 30, x 31, x 32, x 33, x 34, x 35, x 36, x 37, x 38, x 39, x 40, x 41, x 42, x 43, x 44, x 45, x 46, x 47, x 48, x 49, x 50, x 51, x 52, x 53, x 54, x 55, x 56, x 57, x 58, x 59, x 60, x 61, x 62, x 63, x 64, x 65, x 66, x 67, x 68, x 69, x 70, x 71, x 72, x 73, x 74, x 75, x 76, x 77, x 78, x 79, x 80, x 81, x 82, x 83, x 84, x 85, x 86, x 87, x 88, x 89, x 90, x 91, x 92, x 93, x 94, x 95, x 96, x 97, x 98], defers := [] } := by
  refine ⟨fun i => a.tmps.getD i undef, ?_⟩
  obtain ⟨t, d⟩ := a
  obtain ⟨h1, h2, k0, k1, k5, k6, k7⟩ := h
  simp only at h1 h2 k0 k1 k5 k6 k7
  subst h1
  have e0 : t.getD 0 undef = v0 := by rw [Array.getD_eq_getD_getElem?, k0]; rfl
  have e1 : t.getD 1 undef = v1 := by rw [Array.getD_eq_getD_getElem?, k1]; rfl
  have e5 : t.getD 5 undef = vs := by rw [Array.getD_eq_getD_getElem?, k5]; rfl
  have e6 : t.getD 6 undef = vb := by rw [Array.getD_eq_getD_getElem?, k6]; rfl
  have e7 : t.getD 7 undef = vd := by rw [Array.getD_eq_getD_getElem?, k7]; rfl
  have ht := tmpsN 99 t h2
  rw [← e0, ← e1, ← e5, ← e6, ← e7]
  exact congrArg (fun t => ({ tmps := t, defers := [] } : Act)) ht
theorem SX5.of {v0 v1 vs vb vd : Value} (x : Nat → Value) : SX5 v0 v1 vs vb vd { tmps := #[v0, v1, x 2, x 3, x 4, vs, vb, vd, x 8, x 9, x 10, x 11, x 12, x 13, x 14, x 15, x 16, x 17, x 18, x 19, x 20, x 21, x 22, x 23, x 24, x 25, x 26, x 27, x 28, x 29, x 30, x 31, x 32, x 33, x 34, x 35, x 36, x 37, x 38, x 39, x 40, x 41, x 42, x 43, x 44, x 45, x 46, x 47, x 48, x 49, x 50, x 51, x 52, x 53, x 54, x 55, x 56, x 57, x 58, x 59, x 60, x 61, x 62, x 63, x 64, x 65, x 66, x 67, x 68, x 69, x 70, x 71, x 72, x 73, x 74, x 75, x 76, x 77, x 78, x 79, x 80, x 81, x 82, x 83, x 84, x 85, x 86, x 87, x 88, x 89, x 90, x 91, x 92, x 93, x 94, x 95, x 96, x 97, x 98], defers := [] } := ⟨rfl, rfl, rfl, rfl, rfl, rfl, rfl⟩
end Sc
end Go.Proofs.YtogkcphobhhbdaaDoor

/- Plain: the specification's functions of numbers. -/
namespace Go.Proofs.YtogkcphobhhbdaaDoor
open Go Go.RowKit Go.Lib
namespace Sc
open Ev
set_option maxRecDepth 100000
def decB : ByteArray := ⟨#[48, 49, 50, 51, 52, 53, 54, 55, 56, 57]⟩
def binB : ByteArray := ⟨#[48, 49]⟩
def lowB : ByteArray := ⟨#[95]⟩
def low2 : ByteArray := ⟨#[95, 95]⟩
/-- run. -/
def runF (s d : ByteArray) : Bool := allOfF s (d ++ lowB) && (((s.get! 0).toNat != 95) && (((s.get! (s.size - 1)).toNat != 95) && decide (idxF s low2 < 0)))
def cutN8 (s b : ByteArray) : Nat → Nat → ByteArray × ByteArray × Bool
  | 0, _ => (s, ⟨#[]⟩, false)
  | n + 1, i => if i < s.size then (if inByte b (s.get! i) = true then (s.extract 0 i, s.extract (i + 1) s.size, true) else cutN8 s b n (i + 1)) else (s, ⟨#[]⟩, false)
/-- cut. -/
def cutF (s b : ByteArray) : ByteArray × ByteArray × Bool := cutN8 s b s.size 0
def trimU (s : ByteArray) : ByteArray := ⟨(Lib.trimPrefix s.data.toList [95]).toArray⟩
/-- isInt, of a text that begins with a nought and has more. -/
def intR (s : ByteArray) : ByteArray × ByteArray :=
  if (s.get! 1).toNat = 120 ∨ (s.get! 1).toNat = 88 then (hexB, s.extract 2 s.size)
  else if (s.get! 1).toNat = 98 ∨ (s.get! 1).toNat = 66 then (binB, s.extract 2 s.size)
  else if (s.get! 1).toNat = 111 ∨ (s.get! 1).toNat = 79 then (octB, s.extract 2 s.size)
  else (octB, s.extract 1 s.size)
/-- isInt. -/
def isIntF (s : ByteArray) : Bool := if s.size < 2 ∨ (s.get! 0).toNat ≠ 48 then runF s decB else runF (trimU (intR s).2) (intR s).1
/-- exponentOk. -/
def expOkF (s : ByteArray) : Bool := if s.size ≠ 0 ∧ ((s.get! 0).toNat = 43 ∨ (s.get! 0).toNat = 45) then runF (s.extract 1 s.size) decB else runF s decB
def pP : ByteArray := ⟨#[112, 80]⟩
def eE : ByteArray := ⟨#[101, 69]⟩
def dotB : ByteArray := ⟨#[46]⟩
def emp (s : ByteArray) : Bool := s.toList.isEmpty
def hexFl (c d : ByteArray × ByteArray × Bool) : Bool :=
  if (!c.2.2 || !expOkF c.2.1) || (emp d.1 && emp d.2.1) then false else (runF (trimU d.1) hexB || (emp d.1 && d.2.2)) && (emp d.2.1 || runF d.2.1 hexB)
def decFl (c d : ByteArray × ByteArray × Bool) : Bool :=
  if ((c.2.2 && !expOkF c.2.1) || (!c.2.2 && !d.2.2)) || (emp d.1 && emp d.2.1) then false else (emp d.1 || runF d.1 decB) && (emp d.2.1 || runF d.2.1 decB)
def isHexP (s : ByteArray) : Bool := Lib.hasPrefix s.data.toList [48, 120] || Lib.hasPrefix s.data.toList [48, 88]
/-- isFloat. -/
def isFloatF (s : ByteArray) : Bool := if isHexP s = true then hexFl (cutF (s.extract 2 s.size) pP) (cutF (cutF (s.extract 2 s.size) pP).1 dotB) else decFl (cutF s eE) (cutF (cutF s eE).1 dotB)
/-- KindOf. -/
def kindOfF (s : ByteArray) : Int :=
  if s.size = 0 then -1 else if isIntF s = true then 0 else if isFloatF s = true then 1
  else if (s.get! (s.size - 1)).toNat = 105 then (if s.size - 1 ≠ 0 ∧ (isIntF (s.extract 0 (s.size - 1)) = true ∨ isFloatF (s.extract 0 (s.size - 1)) = true ∨ runF (s.extract 0 (s.size - 1)) decB = true) then 2 else -1) else -1
/-! What they say of the bytes. -/
def memB (b : ByteArray) (x : Int) : Bool := inByte b (UInt8.ofNat x.toNat)
theorem memB_byte (b : ByteArray) (x : UInt8) : memB b ((x.toNat : Nat) : Int) = inByte b x := by
  unfold memB
  rw [Int.toNat_natCast, UInt8.ofNat_toNat]
theorem allN_iff {s b : ByteArray} : ∀ (n i : Nat), s.size ≤ i + n → (allN s b n i = true ↔ ∀ x ∈ (bts s).drop i, memB b x = true)
  | 0, i, h => by
    rw [List.drop_eq_nil_of_le (by rw [bts_len]; omega)]
    exact ⟨fun _ x hx => absurd hx List.not_mem_nil, fun _ => rfl⟩
  | n + 1, i, h => by
    by_cases hi : i < s.size
    · simp only [allN, if_pos hi]
      rw [bts_drop_cons hi]
      simp only [List.mem_cons, forall_eq_or_imp, memB_byte]
      by_cases hb : inByte b (s.get! i) = true
      · rw [if_pos hb, allN_iff n (i + 1) (by omega)]
        exact ⟨fun h => ⟨hb, h⟩, fun h => h.2⟩
      · rw [if_neg hb]
        exact ⟨fun h => (by cases h), fun h => absurd h.1 hb⟩
    · simp only [allN, if_neg hi]
      rw [List.drop_eq_nil_of_le (by rw [bts_len]; omega)]
      exact ⟨fun _ x hx => absurd hx List.not_mem_nil, fun _ => trivial⟩
theorem toList_nz {s : ByteArray} (h : s.size ≠ 0) : s.toList.isEmpty = false := by
  rw [ByteArray.toList_eq s]
  have hl : s.data.toList.length = s.size := size_toList s
  cases hd : s.data.toList with
  | nil => rw [hd] at hl; simp at hl; omega
  | cons a t => rfl
theorem emp_iff (s : ByteArray) : emp s = decide (s.size = 0) := by
  unfold emp
  by_cases h0 : s.size = 0
  · rw [decide_eq_true h0, ByteArray.toList_eq s]
    have hl : s.data.toList.length = s.size := size_toList s
    rw [List.isEmpty_iff]
    exact List.eq_nil_of_length_eq_zero (by omega)
  · rw [toList_nz h0, decide_eq_false h0]
theorem allOf_iff {s b : ByteArray} : allOfF s b = true ↔ (∀ x ∈ bts s, memB b x = true) ∧ s.size ≠ 0 := by
  unfold allOfF
  have e := emp_iff s
  unfold emp at e
  rw [e, Bool.and_eq_true, allN_iff s.size 0 (by omega), List.drop_zero]
  simp
theorem idxN_some {s x : ByteArray} : ∀ (n i : Nat), 0 ≤ idxN s x n i → ∃ j, i ≤ j ∧ j + x.size ≤ s.size ∧ (s.extract j (j + x.size)).toList = x.toList ∧ idxN s x n i = j
  | 0, i, h => by simp [idxN] at h
  | n + 1, i, h => by
    rw [idxN] at h ⊢
    split at h
    · rename_i h1
      split at h
      · rename_i h2
        rw [if_pos h1, if_pos h2]
        exact ⟨i, Nat.le_refl _, h1, h2, rfl⟩
      · rename_i h2
        rw [if_pos h1, if_neg h2]
        obtain ⟨j, g1, g2, g3, g4⟩ := idxN_some n (i + 1) h
        exact ⟨j, by omega, g2, g3, g4⟩
    · omega
/-- No two low lines side by side. -/
def noDbl : List Int → Bool
  | [] => true
  | c :: t => !(c == 95 && t.head? == some 95) && noDbl t
theorem runA_iff {D : Int → Bool} : ∀ (l : List Int) (prev : Bool), runA D prev l = true ↔ ((∀ x ∈ l, D x = true ∨ x = 95) ∧ (l.head? = some 95 → prev = true) ∧ (l = [] → prev = true) ∧ l.getLast? ≠ some 95 ∧ noDbl l = true)
  | [], prev => by simp [runA, noDbl]
  | c :: t, prev => by
    have ih0 := runA_iff (D := D) t false
    have ih1 := runA_iff (D := D) t true
    simp only [runA]
    by_cases hc : c = 95
    · rw [if_pos hc, Bool.and_eq_true, ih0]
      subst hc
      constructor
      · rintro ⟨h1, h2, h3, h4, h5, h6⟩
        have hne : t ≠ [] := fun e => by have := h4 e; cases this
        refine ⟨fun x hx => ?_, fun _ => h1, fun e => (by cases e), ?_, ?_⟩
        · rcases List.mem_cons.1 hx with rfl | hx
          · exact .inr rfl
          · exact h2 x hx
        · rw [List.getLast?_cons_of_ne_nil hne]; exact h5
        · simp only [noDbl, Bool.and_eq_true, Bool.not_eq_true', beq_self_eq_true, Bool.true_and]
          refine ⟨?_, h6⟩
          cases hh : t.head? == some 95 with
          | false => rfl
          | true => have := h3 (by simpa using hh); cases this
      · rintro ⟨h1, h2, h3, h4, h5⟩
        have hne : t ≠ [] := fun e => by subst e; exact h4 rfl
        rw [List.getLast?_cons_of_ne_nil hne] at h4
        simp only [noDbl, Bool.and_eq_true, Bool.not_eq_true', beq_self_eq_true, Bool.true_and] at h5
        refine ⟨h2 rfl, fun x hx => h1 x (List.mem_cons_of_mem _ hx), fun e => ?_, fun e => absurd e hne, h4, h5.2⟩
        rw [e] at h5; simp at h5
    · rw [if_neg hc, Bool.and_eq_true, ih1]
      constructor
      · rintro ⟨h1, h2, h3, h4, h5, h6⟩
        refine ⟨fun x hx => ?_, fun e => (by simp only [List.head?_cons, Option.some.injEq] at e; exact absurd e hc), fun e => (by cases e), ?_, ?_⟩
        · rcases List.mem_cons.1 hx with rfl | hx
          · exact .inl h1
          · exact h2 x hx
        · cases t with
          | nil => simpa using hc
          | cons d t => rw [List.getLast?_cons_of_ne_nil (by simp)]; exact h5
        · simp only [noDbl, beq_eq_false_iff_ne.2 hc, Bool.false_and, Bool.not_false, Bool.true_and]
          exact h6
      · rintro ⟨h1, h2, h3, h4, h5⟩
        simp only [noDbl, beq_eq_false_iff_ne.2 hc, Bool.false_and, Bool.not_false, Bool.true_and] at h5
        refine ⟨?_, fun x hx => h1 x (List.mem_cons_of_mem _ hx), fun _ => rfl, fun _ => rfl, ?_, h5⟩
        · rcases h1 c (by simp) with h | h
          · exact h
          · exact absurd h hc
        · cases t with
          | nil => simp
          | cons d t => rw [List.getLast?_cons_of_ne_nil (by simp)] at h4; exact h4
theorem noDbl_iff : ∀ (l : List Int), noDbl l = true ↔ ∀ j : Nat, ¬ (l[j]? = some 95 ∧ l[j + 1]? = some 95)
  | [] => by simp [noDbl]
  | c :: t => by
    simp only [noDbl, Bool.and_eq_true, noDbl_iff t]
    constructor
    · rintro ⟨h1, h2⟩ j ⟨g1, g2⟩
      cases j with
      | zero =>
        simp only [List.getElem?_cons_zero, Option.some.injEq] at g1
        rw [List.getElem?_cons_succ, ← List.head?_eq_getElem?] at g2
        subst g1
        rw [g2] at h1
        simp at h1
      | succ j =>
        rw [List.getElem?_cons_succ] at g1 g2
        exact h2 j ⟨g1, g2⟩
    · intro h
      refine ⟨?_, fun j hj => h (j + 1) (by rw [List.getElem?_cons_succ, List.getElem?_cons_succ]; exact hj)⟩
      cases hc : c == 95 with
      | false => rfl
      | true =>
        cases ht : t.head? == some 95 with
        | false => rfl
        | true =>
          refine absurd ?_ (h 0)
          have h1 : c = 95 := by simpa using hc
          have h2 : t.head? = some 95 := by simpa using ht
          subst h1
          rw [List.head?_eq_getElem?] at h2
          exact ⟨rfl, by rw [List.getElem?_cons_succ]; exact h2⟩
theorem idx_low {s : ByteArray} : idxF s low2 < 0 ↔ noDbl (bts s) = true := by
  have key : ∀ j, j + 2 ≤ s.size → ((s.extract j (j + low2.size)).toList = low2.toList ↔ ((bts s)[j]? = some 95 ∧ (bts s)[j + 1]? = some 95)) := fun j hj => by
    have hsz : (s.extract j (j + low2.size)).size = 2 := by rw [extract_size _ _ _ (by show j + 2 ≤ _; omega)]; show j + 2 - j = 2; omega
    have e0 : (s.extract j (j + low2.size)).get! 0 = s.get! j := by rw [extract_get _ _ _ _ (by show j + 2 ≤ _; omega) (by show 0 < j + 2 - j; omega), Nat.add_zero]
    have e1 : (s.extract j (j + low2.size)).get! 1 = s.get! (j + 1) := by rw [extract_get _ _ _ _ (by show j + 2 ≤ _; omega) (by show 1 < j + 2 - j; omega)]
    rw [bts_get (by omega), bts_get (by omega)]
    simp only [Option.some.injEq]
    constructor
    · intro h
      have h := toList_inj h
      rw [h] at e0 e1
      have f0 : low2.get! 0 = 95 := rfl
      have f1 : low2.get! 1 = 95 := rfl
      rw [← e0, ← e1, f0, f1]
      exact ⟨rfl, rfl⟩
    · rintro ⟨h0, h1⟩
      refine congrArg ByteArray.toList (bytes_ext hsz (fun k hk => ?_))
      rw [hsz] at hk
      match k, hk with
      | 0, _ => rw [e0]; exact UInt8.toNat_inj.1 (by show _ = 95; omega)
      | 1, _ => rw [e1]; exact UInt8.toNat_inj.1 (by show _ = 95; omega)
  rw [noDbl_iff]
  constructor
  · intro h j hj
    have hl : j + 2 ≤ s.size := by
      have := (List.getElem?_eq_some_iff.1 hj.2).1
      rw [bts_len] at this; omega
    exact idxF_none h j hl ((key j hl).2 hj)
  · intro h
    by_cases h0 : idxF s low2 < 0
    · exact h0
    · obtain ⟨j, _, g2, g3, _⟩ := idxN_some (s := s) (x := low2) (s.size + 1) 0 (by unfold idxF at h0; omega)
      exact absurd ((key j g2).1 g3) (h j)
theorem inByte_iff (b : ByteArray) (x : UInt8) : inByte b x = true ↔ x ∈ b.data.toList := by
  unfold inByte
  rw [decide_eq_true_iff]
  constructor
  · intro h
    obtain ⟨i, hi⟩ := Int.eq_ofNat_of_zero_le h
    exact List.mem_iff_getElem?.2 ⟨i, (Lib.indexByte_some hi).1⟩
  · intro h
    have h1 := Lib.indexByte_ge b.data.toList x
    by_cases h2 : Lib.indexByte b.data.toList x = -1
    · obtain ⟨j, hj⟩ := List.mem_iff_getElem?.1 h
      exact absurd hj (Lib.indexByte_none h2 j)
    · omega
theorem memB_app (a b : ByteArray) (x : Int) : memB (a ++ b) x = (memB a x || memB b x) := by
  have : memB (a ++ b) x = true ↔ (memB a x || memB b x) = true := by
    unfold memB
    rw [Bool.or_eq_true, inByte_iff, inByte_iff, inByte_iff, app_list, List.mem_append]
  cases h1 : memB (a ++ b) x <;> cases h2 : (memB a x || memB b x) <;> simp_all
theorem memB_low {x : Int} (h0 : 0 ≤ x) (h1 : x < 256) : memB lowB x = true ↔ x = 95 := by
  unfold memB
  rw [inByte_iff]
  show _ ∈ [(95 : UInt8)] ↔ _
  rw [List.mem_singleton]
  constructor
  · intro h
    have := congrArg UInt8.toNat h
    rw [UInt8.toNat_ofNat'] at this
    have h95 : (95 : UInt8).toNat = 95 := rfl
    rw [h95] at this
    omega
  · rintro rfl; rfl
theorem run_iff (s d : ByteArray) : runF s d = runA (memB d) false (bts s) := by
  have : runF s d = true ↔ runA (memB d) false (bts s) = true := by
    unfold runF
    rw [runA_iff, Bool.and_eq_true, Bool.and_eq_true, Bool.and_eq_true, allOf_iff, decide_eq_true_iff, idx_low]
    have hall : (∀ x ∈ bts s, memB (d ++ lowB) x = true) ↔ ∀ x ∈ bts s, memB d x = true ∨ x = 95 := by
      refine forall_congr' (fun x => forall_congr' (fun hx => ?_))
      have := bts_in s x hx
      rw [memB_app, Bool.or_eq_true, memB_low this.1 this.2]
    rw [hall]
    have hnil : bts s = [] ↔ s.size = 0 := by
      rw [← List.length_eq_zero_iff, bts_len]
    by_cases h0 : s.size = 0
    · have := hnil.2 h0
      constructor
      · rintro ⟨⟨_, h⟩, _⟩; exact absurd h0 h
      · rintro ⟨_, _, h, _⟩; have := h this; cases this
    · have hh : (bts s).head? = some (((s.get! 0).toNat : Nat) : Int) := by rw [List.head?_eq_getElem?]; exact bts_get (by omega)
      have hl : (bts s).getLast? = some (((s.get! (s.size - 1)).toNat : Nat) : Int) := by rw [List.getLast?_eq_getElem?, bts_len]; exact bts_get (by omega)
      rw [hh, hl, hnil]
      simp only [Option.some.injEq, bne_iff_ne, ne_eq]
      constructor
      · rintro ⟨⟨h1, _⟩, h2, h3, h4⟩
        exact ⟨h1, fun e => absurd (by omega) h2, fun e => absurd e h0, fun e => h3 (by omega), h4⟩
      · rintro ⟨h1, h2, h3, h4, h5⟩
        exact ⟨⟨h1, h0⟩, fun e => (by have := h2 (by omega); cases this), fun e => h4 (by omega), h5⟩
  cases h1 : runF s d <;> cases h2 : runA (memB d) false (bts s) <;> simp_all
/-- cut: what it parts. -/
theorem cutN8_ok {s b : ByteArray} : ∀ (n i : Nat), s.size ≤ i + n → i ≤ s.size → (∀ x ∈ (bts s).take i, memB b x = false) →
    ((cutN8 s b n i).2.2 = true ∧ ∃ c, bts s = bts (cutN8 s b n i).1 ++ c :: bts (cutN8 s b n i).2.1 ∧ memB b c = true ∧ ∀ x ∈ bts (cutN8 s b n i).1, memB b x = false) ∨
    ((cutN8 s b n i).2.2 = false ∧ (cutN8 s b n i).1 = s ∧ (cutN8 s b n i).2.1 = ⟨#[]⟩ ∧ ∀ x ∈ bts s, memB b x = false)
  | 0, i, h1, h2, h3 => by
    refine .inr ⟨rfl, rfl, rfl, ?_⟩
    rw [List.take_of_length_le (by rw [bts_len]; omega)] at h3
    exact h3
  | n + 1, i, h1, h2, h3 => by
    by_cases hi : i < s.size
    · simp only [cutN8, if_pos hi]
      by_cases hb : inByte b (s.get! i) = true
      · rw [if_pos hb]
        have e1 : bts (s.extract 0 i) = (bts s).take i := by rw [bts_extract _ _ _ (by omega), List.drop_zero, Nat.sub_zero]
        have e2 : bts (s.extract (i + 1) s.size) = (bts s).drop (i + 1) := by rw [bts_extract _ _ _ (by omega), List.take_of_length_le (by rw [List.length_drop, bts_len]; omega)]
        refine .inl ⟨rfl, (((s.get! i).toNat : Nat) : Int), ?_, by rw [memB_byte]; exact hb, ?_⟩
        · simp only
          rw [e1, e2, ← bts_drop_cons hi, List.take_append_drop]
        · simp only
          rw [e1]; exact h3
      · rw [if_neg hb]
        refine cutN8_ok n (i + 1) (by omega) (by omega) (fun x hx => ?_)
        rw [List.take_add_one, bts_get hi] at hx
        rcases List.mem_append.1 hx with hx | hx
        · exact h3 x hx
        · simp only [Option.toList_some, List.mem_singleton] at hx
          subst hx
          rw [memB_byte]
          simpa using hb
    · simp only [cutN8, if_neg hi]
      refine .inr ⟨trivial, trivial, trivial, ?_⟩
      rw [List.take_of_length_le (by rw [bts_len]; omega)] at h3
      exact h3
theorem cutF_ok (s b : ByteArray) : ((cutF s b).2.2 = true ∧ ∃ c, bts s = bts (cutF s b).1 ++ c :: bts (cutF s b).2.1 ∧ memB b c = true ∧ ∀ x ∈ bts (cutF s b).1, memB b x = false) ∨
    ((cutF s b).2.2 = false ∧ (cutF s b).1 = s ∧ (cutF s b).2.1 = ⟨#[]⟩ ∧ ∀ x ∈ bts s, memB b x = false) := cutN8_ok s.size 0 (by omega) (Nat.zero_le _) (fun x hx => by simp at hx)
end Sc
end Go.Proofs.YtogkcphobhhbdaaDoor

/- spec.run, spec.cut, spec.isInt and spec.exponentOk walked. -/
namespace Go.Proofs.YtogkcphobhhbdaaDoor
open Go Go.RowKit Go.Lib
namespace Sc
open Ev
set_option maxRecDepth 100000
set_option maxHeartbeats 1600000 in
theorem run_walk (w : World) (s d : ByteArray) (hs : s.size ≤ 100000) (hd : d.size ≤ 1000) : Calls Tryd.prog 43 #[.string s, .string d] w fun e w' => e = .returned (.bool (runF s d)) ∧ w' = w := by
  have hA := fun w => allOf_walk w s (d ++ ⟨#[95]⟩) (by omega)
  have hX := fun w => index_walk w s low2 (by omega) (by decide)
  have hf : runF s d = (allOfF s (d ++ ⟨#[95]⟩) && (((s.get! 0).toNat != 95) && (((s.get! (s.size - 1)).toNat != 95) && decide (idxF s low2 < 0)))) := rfl
  have hne : allOfF s (d ++ ⟨#[95]⟩) = true → s.size ≠ 0 := fun h => (allOf_iff.1 h).2
  generalize idxF s low2 = ix at hX hf
  generalize allOfF s (d ++ ⟨#[95]⟩) = al at hA hf hne
  generalize runF s d = r at hf ⊢
  unfold low2 at hX
  subst hf
  cases al with
  | false =>
    go_enter Tryd.func43, Tryd.ntmps43
    go_wp2_with (go_at_call 32; refine (hA _).mono ?_; rintro en w1 ⟨rfl, rfl⟩)
    all_goals exact ⟨rfl, _, one_res (k := 4) (by kernel_rfl) rfl, rfl, rfl⟩
  | true =>
    have h0 : s.size ≠ 0 := hne rfl
    clear hne
    have k0 : 0 < s.size := by omega
    have k1 : (0 : Int) < (s.size : Int) := by omega
    have kw : IntKind.i64.wrap ((s.size : Int) - 1) = ((s.size - 1 : Nat) : Int) := by rw [show (s.size : Int) - 1 = ((s.size - 1 : Nat) : Int) by omega]; exact i64_small (by omega) (by omega)
    have k2 : (0 : Int) ≤ ((s.size - 1 : Nat) : Int) := by omega
    have k3 : ((s.size - 1 : Nat) : Int) < (s.size : Int) := by omega
    have k4 : s.size - 1 < s.size := by omega
    rw [get_bang s 0 k0, get_bang s (s.size - 1) k4]
    generalize s.size - 1 = j at kw k2 k3 k4 ⊢
    by_cases b0 : s[0].toNat = 95
    · have b0' : (((s[0].toNat : Nat) : Int) != 95) = false := by simp [b0]
      go_enter Tryd.func43, Tryd.ntmps43
      go_wp2_with (go_at_call 32; refine (hA _).mono ?_; rintro en w1 ⟨rfl, rfl⟩)
      all_goals exact ⟨rfl, _, one_res (k := 4) (by kernel_rfl) rfl, by simp [b0], rfl⟩
    · have b0' : (((s[0].toNat : Nat) : Int) != 95) = true := by simp; omega
      by_cases b1 : s[j].toNat = 95
      · have b1' : (((s[j].toNat : Nat) : Int) != 95) = false := by simp [b1]
        go_enter Tryd.func43, Tryd.ntmps43
        go_wp2_with (go_at_call 32; refine (hA _).mono ?_; rintro en w1 ⟨rfl, rfl⟩)
        all_goals exact ⟨rfl, _, one_res (k := 4) (by kernel_rfl) rfl, by simp [b0, b1], rfl⟩
      · have b1' : (((s[j].toNat : Nat) : Int) != 95) = true := by simp; omega
        go_enter Tryd.func43, Tryd.ntmps43
        go_wp2_with (first
          | (go_at_call 32; refine (hA _).mono ?_; rintro en w1 ⟨rfl, rfl⟩)
          | (go_at_call 28; refine (hX _).mono ?_; rintro en w2 ⟨rfl, rfl⟩))
        all_goals exact ⟨rfl, _, one_res (k := 4) (by kernel_rfl) rfl, by rw [bne_iff_ne.2 b0, bne_iff_ne.2 b1]; rfl, rfl⟩
/-- Known slots of a frame of 28. -/
structure SCu (v0 v1 vi : Value) (a : Act) : Prop where
  defers : a.defers = []
  size : a.tmps.size = 28
  s0 : a.tmps[0]? = some v0
  s1 : a.tmps[1]? = some v1
  s7 : a.tmps[7]? = some vi
theorem SCu.lit {v0 v1 vi : Value} {a : Act} (h : SCu v0 v1 vi a) : ∃ x : Nat → Value, a = { tmps := #[v0, v1, x 2, x 3, x 4, x 5, x 6, vi, x 8, x 9, x 10, x 11, x 12, x 13, x 14, x 15, x 16, x 17, x 18, x 19, x 20, x 21, x 22, x 23, x 24, x 25, x 26, x 27], defers := [] } := by
  refine ⟨fun i => a.tmps.getD i undef, ?_⟩
  obtain ⟨t, d⟩ := a
  obtain ⟨h1, h2, k0, k1, k7⟩ := h
  simp only at h1 h2 k0 k1 k7
  subst h1
  have e0 : t.getD 0 undef = v0 := by rw [Array.getD_eq_getD_getElem?, k0]; rfl
  have e1 : t.getD 1 undef = v1 := by rw [Array.getD_eq_getD_getElem?, k1]; rfl
  have e7 : t.getD 7 undef = vi := by rw [Array.getD_eq_getD_getElem?, k7]; rfl
  have ht := tmpsN 28 t h2
  rw [← e0, ← e1, ← e7]
  exact congrArg (fun t => ({ tmps := t, defers := [] } : Act)) ht
theorem SCu.of {v0 v1 vi : Value} (x : Nat → Value) : SCu v0 v1 vi { tmps := #[v0, v1, x 2, x 3, x 4, x 5, x 6, vi, x 8, x 9, x 10, x 11, x 12, x 13, x 14, x 15, x 16, x 17, x 18, x 19, x 20, x 21, x 22, x 23, x 24, x 25, x 26, x 27], defers := [] } := ⟨rfl, rfl, rfl, rfl, rfl⟩
noncomputable abbrev cuBody : Code := bodyOf Tryd.f62
noncomputable abbrev cuLoop : Code := loopOf (blkOf cuBody 0)
noncomputable abbrev cuP (n : Nat) : Code := fstC (cutTail n cuBody)
theorem cu_body : (Tryd.f62).body = some (.seq (cuP 0) (.seq (.seq (fstC (cuP 1)) (.block 0 (.loop cuLoop))) (cutTail 2 cuBody))) := by kernel_rfl
theorem cu_res {a : Act} {w : World} {v ve vf : Value} (h4 : a.tmps[4]? = some v) (h5 : a.tmps[5]? = some ve) (h6 : a.tmps[6]? = some vf) : (results Tryd.f62 a.tmps).run Tryd.prog w = .ok (.tuple #[v, ve, vf]) w := by
  have e : (Tryd.f62).results = #[.tmp 4, .tmp 5, .tmp 6] := by kernel_rfl
  simp [results, e, h4, h5, h6, go_sem]
theorem cu_out {w : World} {s b : ByteArray} {i : Nat} (h : ¬ i < s.size)
    (a : Act) (hz : SCu (.string s) (.string b) (.int .i64 i) a) (Q : Exit → Act → World → Prop) (hQ : ∀ a', SCu (.string s) (.string b) (.int .i64 i) a' → Q (.exit 0) a' w) : cuLoop.wp Tryd.prog Q a w := by
  obtain ⟨y, rfl⟩ := hz.lit
  clear hz
  have h1 : ¬ (i : Int) < (s.size : Int) := by omega
  simp only [cuLoop, cuBody, bodyOf, Tryd.f62, Option.getD, blkOf, loopOf, cond, Nat.beq]
  go_wp2_with fail
  exact ⟨rfl, rfl, rfl, rfl, rfl⟩
set_option maxHeartbeats 3200000 in
theorem cu_round {w : World} {s b : ByteArray} {i : Nat} (h : i < s.size) (hs : s.size ≤ 100000)
    (a : Act) (hz : SCu (.string s) (.string b) (.int .i64 i) a) (Q : Exit → Act → World → Prop)
    (h1 : inByte b (s.get! i) = true → ∀ a' w', Below w.heap.size w w' → a'.defers = [] → a'.tmps[4]? = some (.string (s.extract 0 i)) → a'.tmps[5]? = some (.string (s.extract (i + 1) s.size)) → a'.tmps[6]? = some (.bool true) → Q .ret a' w')
    (h2 : inByte b (s.get! i) = false → ∀ a', SCu (.string s) (.string b) (.int .i64 (i + 1 : Nat)) a' → Q .normal a' w) : cuLoop.wp Tryd.prog Q a w := by
  obtain ⟨y, rfl⟩ := hz.lit
  clear hz
  have hw1 : IntKind.i64.wrap ((i : Int) + 1) = ((i + 1 : Nat) : Int) := by rw [show (i : Int) + 1 = ((i + 1 : Nat) : Int) by omega]; exact i64_small (by omega) (by omega)
  have k1 : (i : Int) < (s.size : Int) := by omega
  have k2 : (0 : Int) ≤ (i : Int) := by omega
  have k4 : (i : Int) ≤ (s.size : Int) := by omega
  have k5 : ((i + 1 : Nat) : Int) ≤ (s.size : Int) := by omega
  have k6 : (0 : Int) ≤ ((i + 1 : Nat) : Int) := by omega
  rw [get_bang s i h] at h1 h2
  have hI := fun w => indexByte_walk w b ((s[i].toNat : Nat) : Int)
  rw [show (((s[i].toNat : Nat) : Int)).toNat.toUInt8 = s[i] by simp] at hI
  unfold inByte at h1 h2
  generalize Lib.indexByte b.data.toList s[i] = ix at hI h1 h2
  by_cases he : 0 ≤ ix
  · have g1 := h1 (by simpa using he)
    have he' : ¬ ix < 0 := by omega
    clear h1 h2
    simp only [cuLoop, cuBody, bodyOf, Tryd.f62, Option.getD, blkOf, loopOf, cond, Nat.beq]
    go_wp2_with (go_at_call 18; refine (hI _).mono ?_; rintro en w1 ⟨rfl, rfl⟩)
    all_goals try (go_quiet (fail))
    all_goals (go_wp2_with fail)
    all_goals exact g1 _ _ (below_drewN _ _ _) rfl rfl rfl rfl
  · have g2 := h2 (by simpa using he)
    clear h1 h2
    simp only [cuLoop, cuBody, bodyOf, Tryd.f62, Option.getD, blkOf, loopOf, cond, Nat.beq]
    go_wp2_with (go_at_call 18; refine (hI _).mono ?_; rintro en w1 ⟨rfl, rfl⟩)
    all_goals exact ⟨rfl, rfl, rfl, rfl, rfl⟩
theorem cu_loop {w : World} {s b : ByteArray} (hs : s.size ≤ 100000) (Q : Exit → Act → World → Prop) : ∀ (d i : Nat) (a : Act), s.size ≤ i + d → i ≤ s.size → SCu (.string s) (.string b) (.int .i64 i) a →
      (cutN8 s b d i = (s, ⟨#[]⟩, false) → ∀ a (j : Nat), SCu (.string s) (.string b) (.int .i64 j) a → Q .normal a w) →
      (∀ a w', Below w.heap.size w w' → a.defers = [] → a.tmps[4]? = some (.string (cutN8 s b d i).1) → a.tmps[5]? = some (.string (cutN8 s b d i).2.1) → a.tmps[6]? = some (.bool (cutN8 s b d i).2.2) → Q .ret a w') →
      Code.rounds Tryd.prog cuLoop (Exit.inBlock 0 Q) (d + 1) a w
  | 0, i, a, hd, hi, hz, h1, h2 => by
    rw [rounds_succ]
    exact cu_out (by omega) a hz _ (fun a' z' => h1 rfl a' _ z')
  | d + 1, i, a, hd, hi, hz, h1, h2 => by
    rw [rounds_succ]
    by_cases hp : i < s.size
    · simp only [cutN8, if_pos hp] at h1 h2
      refine cu_round hp hs a hz _ (fun he a' w' b' d0 d4 d5 d6 => ?_) (fun he a' z' => ?_)
      · rw [if_pos he] at h2
        exact h2 a' w' b' d0 d4 d5 d6
      · rw [if_neg (by rw [he]; decide)] at h1 h2
        exact cu_loop hs Q d (i + 1) a' (by omega) (by omega) z' h1 h2
    · exact cu_out hp a hz _ (fun a' z' => h1 (by simp only [cutN8, if_neg hp]) a' _ z')
theorem cu_first {w : World} {s b : ByteArray} (B C : Code) (Q : Exit → Act → World → Prop)
    (hQ : ∀ a, SCu (.string s) (.string b) (.int .i64 (0 : Nat)) a → B.wp Tryd.prog (Exit.then (fun a w => C.wp Tryd.prog Q a w) Q) a w) :
    (Code.seq (cuP 0) (.seq (.seq (fstC (cuP 1)) B) C)).wp Tryd.prog Q { tmps := #[.string s, .string b] ++ Array.replicate 26 undef, defers := [] } w := by
  simp only [cuP, fstC, cuBody, bodyOf, Tryd.f62, Option.getD, cutTail, cutN, Option.map, Array.replicate_succ, Array.replicate_zero, List.push_toArray, List.append_toArray, List.nil_append, List.cons_append]
  go_wp2_with fail
  rename_i K hK
  refine Code.wp_mono (fun e a w h => ?_) (hQ _ ⟨rfl, rfl, rfl, rfl, rfl⟩)
  cases e <;> first | exact hK _ _ h | exact h
theorem cu_last {w : World} {s : ByteArray} {v1 vi : Value} (a : Act) (hz : SCu (.string s) v1 vi a) (Q : Exit → Act → World → Prop)
    (hQ : ∀ a', a'.defers = [] → a'.tmps[4]? = some (.string s) → a'.tmps[5]? = some (.string ⟨#[]⟩) → a'.tmps[6]? = some (.bool false) → Q .ret a' w) : (cutTail 2 cuBody).wp Tryd.prog Q a w := by
  obtain ⟨x, rfl⟩ := hz.lit
  clear hz
  simp only [cuBody, bodyOf, Tryd.f62, Option.getD, cutTail, cutN, Option.map]
  go_wp2_with fail
  exact hQ _ rfl rfl rfl rfl
theorem cut_walk (w : World) (s b : ByteArray) (hs : s.size ≤ 100000) : Calls Tryd.prog 62 #[.string s, .string b] w fun e w' => e = .returned (.tuple #[.string (cutF s b).1, .string (cutF s b).2.1, .bool (cutF s b).2.2]) ∧ Below w.heap.size w w' := by
  refine calls_of_wp Tryd.func62 cu_body ?_
  have hnt : (Tryd.f62).ntmps - (#[.string s, .string b] : Array Value).size = 26 := by kernel_rfl
  rw [hnt]
  refine cu_first _ _ _ (fun a z => ?_)
  refine wp_block (wp_loop_rounds (s.size + 1) ?_)
  refine cu_loop hs _ s.size 0 a (by omega) (Nat.zero_le _) z (fun hf a2 j z2 => ?_) (fun a2 w2 b2 d0 d4 d5 d6 => ?_)
  · show (cutTail 2 cuBody).wp _ _ a2 w
    have hf : cutF s b = (s, ⟨#[]⟩, false) := hf
    exact cu_last a2 z2 _ (fun a3 d0 d4 d5 d6 => ⟨d0, _, cu_res d4 d5 d6, by rw [hf], Below.refl _ _⟩)
  · exact ⟨d0, _, cu_res d4 d5 d6, rfl, b2⟩
end Sc
end Go.Proofs.YtogkcphobhhbdaaDoor

/- spec.isInt and spec.exponentOk walked. -/
namespace Go.Proofs.YtogkcphobhhbdaaDoor
open Go Go.RowKit Go.Lib
namespace Sc
open Ev
set_option maxRecDepth 100000
theorem trimU_size (s : ByteArray) : (trimU s).size ≤ s.size := by
  have h1 : (trimU s).size = (trimU s).data.toList.length := (size_toList _).symm
  have h2 : s.size = s.data.toList.length := (size_toList _).symm
  rw [h1, h2]
  unfold trimU Lib.trimPrefix
  simp only
  split
  · rw [List.length_drop]; omega
  · exact Nat.le_refl _
set_option maxHeartbeats 3200000 in
theorem expOk_walk (w : World) (s : ByteArray) (hs : s.size ≤ 100000) : Calls Tryd.prog 63 #[.string s] w fun e w' => e = .returned (.bool (expOkF s)) ∧ w' = w := by
  have hR := fun w => run_walk w s decB (by omega) (by decide)
  have hE := emp_iff s
  unfold emp at hE
  by_cases h0 : s.size = 0
  · rw [decide_eq_true h0] at hE
    have hf : expOkF s = runF s decB := if_neg (fun h => h.1 h0)
    rw [hf]
    generalize runF s decB = r at hR
    unfold decB at hR
    go_enter Tryd.func63, Tryd.ntmps63
    go_wp2_with (go_at_call 43; refine (hR _).mono ?_; rintro en w1 ⟨rfl, rfl⟩)
    all_goals exact ⟨rfl, _, one_res (k := 2) (by kernel_rfl) rfl, rfl, rfl⟩
  · rw [decide_eq_false h0] at hE
    have k0 : 0 < s.size := by omega
    have k1 : (0 : Int) < (s.size : Int) := by omega
    have k2 : (1 : Int) ≤ (s.size : Int) := by omega
    have hR2 := fun w => run_walk w (s.extract 1 s.size) decB (by rw [ByteArray.size_extract]; omega) (by decide)
    by_cases hc : s[0].toNat = 43 ∨ s[0].toNat = 45
    · have hf : expOkF s = runF (s.extract 1 s.size) decB := if_pos ⟨h0, by rw [get_bang s 0 k0]; exact hc⟩
      rw [hf]
      clear hf hR
      generalize runF (s.extract 1 s.size) decB = r at hR2
      unfold decB at hR2
      by_cases hc1 : s[0].toNat = 43
      · have e1 : (((s[0].toNat : Nat) : Int) == 43) = true := by simp [hc1]
        go_enter Tryd.func63, Tryd.ntmps63
        go_wp2_with (go_at_call 43; refine (hR2 _).mono ?_; rintro en w1 ⟨rfl, rfl⟩)
        all_goals exact ⟨rfl, _, one_res (k := 2) (by kernel_rfl) rfl, rfl, rfl⟩
      · have hc2 := hc.resolve_left hc1
        have e1 : (((s[0].toNat : Nat) : Int) == 43) = false := by simp; omega
        have e2 : (((s[0].toNat : Nat) : Int) == 45) = true := by simp [hc2]
        go_enter Tryd.func63, Tryd.ntmps63
        go_wp2_with (go_at_call 43; refine (hR2 _).mono ?_; rintro en w1 ⟨rfl, rfl⟩)
        all_goals exact ⟨rfl, _, one_res (k := 2) (by kernel_rfl) rfl, rfl, rfl⟩
    · have hf : expOkF s = runF s decB := if_neg (fun h => hc (by rw [← get_bang s 0 k0]; exact h.2))
      rw [hf]
      clear hf hR2
      generalize runF s decB = r at hR
      unfold decB at hR
      have e1 : (((s[0].toNat : Nat) : Int) == 43) = false := by simp; omega
      have e2 : (((s[0].toNat : Nat) : Int) == 45) = false := by simp; omega
      go_enter Tryd.func63, Tryd.ntmps63
      go_wp2_with (go_at_call 43; refine (hR _).mono ?_; rintro en w1 ⟨rfl, rfl⟩)
      all_goals exact ⟨rfl, _, one_res (k := 2) (by kernel_rfl) rfl, rfl, rfl⟩
/-- Known slots of a frame of 38. -/
structure SIi (v0 vd vr : Value) (a : Act) : Prop where
  defers : a.defers = []
  size : a.tmps.size = 38
  s0 : a.tmps[0]? = some v0
  s3 : a.tmps[3]? = some vd
  s4 : a.tmps[4]? = some vr
theorem SIi.lit {v0 vd vr : Value} {a : Act} (h : SIi v0 vd vr a) : ∃ x : Nat → Value, a = { tmps := #[v0, x 1, x 2, vd, vr, x 5, x 6, x 7, x 8, x 9, x 10, x 11, x 12, x 13, x 14, x 15, x 16, x 17, x 18, x 19, x 20, x 21, x 22, x 23, x 24, x 25, x 26, x 27, x 28, x 29, x 30, x 31, x 32, x 33, x 34, x 35, x 36, x 37], defers := [] } := by
  refine ⟨fun i => a.tmps.getD i undef, ?_⟩
  obtain ⟨t, d⟩ := a
  obtain ⟨h1, h2, k0, k3, k4⟩ := h
  simp only at h1 h2 k0 k3 k4
  subst h1
  have e0 : t.getD 0 undef = v0 := by rw [Array.getD_eq_getD_getElem?, k0]; rfl
  have e3 : t.getD 3 undef = vd := by rw [Array.getD_eq_getD_getElem?, k3]; rfl
  have e4 : t.getD 4 undef = vr := by rw [Array.getD_eq_getD_getElem?, k4]; rfl
  have ht := tmpsN 38 t h2
  rw [← e0, ← e3, ← e4]
  exact congrArg (fun t => ({ tmps := t, defers := [] } : Act)) ht
theorem SIi.of {v0 vd vr : Value} (x : Nat → Value) : SIi v0 vd vr { tmps := #[v0, x 1, x 2, vd, vr, x 5, x 6, x 7, x 8, x 9, x 10, x 11, x 12, x 13, x 14, x 15, x 16, x 17, x 18, x 19, x 20, x 21, x 22, x 23, x 24, x 25, x 26, x 27, x 28, x 29, x 30, x 31, x 32, x 33, x 34, x 35, x 36, x 37], defers := [] } := ⟨rfl, rfl, rfl, rfl, rfl⟩
noncomputable abbrev iiBody : Code := bodyOf Tryd.f41
noncomputable abbrev iiP (n : Nat) : Code := fstC (cutTail n iiBody)
theorem ii_body : (Tryd.f41).body = some (.seq (iiP 0) (.seq (iiP 1) (.seq (iiP 2) (.seq (iiP 3) (cutTail 4 iiBody))))) := by kernel_rfl
set_option maxHeartbeats 1600000 in
theorem ii_short {w : World} {s : ByteArray} (hs : s.size ≤ 100000) (h2 : s.size < 2 ∨ (s.get! 0).toNat ≠ 48) (C : Code) (Q : Exit → Act → World → Prop) (hQ : ∀ a', a'.defers = [] → a'.tmps[2]? = some (.bool (runF s decB)) → Q .ret a' w) :
    (Code.seq (iiP 0) (.seq (iiP 1) C)).wp Tryd.prog Q { tmps := #[.string s] ++ Array.replicate 37 undef, defers := [] } w := by
  have hR := fun w => run_walk w s decB (by omega) (by decide)
  generalize runF s decB = r at hR hQ
  unfold decB at hR
  by_cases k2 : s.size < 2
  · have k : (s.size : Int) < 2 := by omega
    simp only [iiP, fstC, iiBody, bodyOf, Tryd.f41, Option.getD, cutTail, cutN, Option.map, Array.replicate_succ, Array.replicate_zero, List.push_toArray, List.append_toArray, List.nil_append, List.cons_append]
    go_wp2_with (go_at_call 43; refine (hR _).mono ?_; rintro en w1 ⟨rfl, rfl⟩)
    all_goals exact hQ _ rfl rfl
  · have h48 := h2.resolve_left k2
    have k0 : 0 < s.size := by omega
    have k1 : (0 : Int) < (s.size : Int) := by omega
    have k : ¬ (s.size : Int) < 2 := by omega
    rw [get_bang s 0 k0] at h48
    have e0 : (((s[0].toNat : Nat) : Int) != 48) = true := by simp; omega
    simp only [iiP, fstC, iiBody, bodyOf, Tryd.f41, Option.getD, cutTail, cutN, Option.map, Array.replicate_succ, Array.replicate_zero, List.push_toArray, List.append_toArray, List.nil_append, List.cons_append]
    go_wp2_with (go_at_call 43; refine (hR _).mono ?_; rintro en w1 ⟨rfl, rfl⟩)
    all_goals exact hQ _ rfl rfl
set_option maxHeartbeats 1600000 in
theorem ii_head {w : World} {s : ByteArray} (k2 : ¬ s.size < 2) (h48 : (s.get! 0).toNat = 48) (C : Code) (Q : Exit → Act → World → Prop) (hQ : ∀ a' w', SIi (.string s) (.string octB) (.string (s.extract 1 s.size)) a' → Below w.heap.size w w' → C.wp Tryd.prog Q a' w') :
    (Code.seq (iiP 0) (.seq (iiP 1) (.seq (iiP 2) C))).wp Tryd.prog Q { tmps := #[.string s] ++ Array.replicate 37 undef, defers := [] } w := by
  have k0 : 0 < s.size := by omega
  have k1 : (0 : Int) < (s.size : Int) := by omega
  have k : ¬ (s.size : Int) < 2 := by omega
  have k5 : (1 : Int) ≤ (s.size : Int) := by omega
  rw [get_bang s 0 k0] at h48
  have e0 : (((s[0].toNat : Nat) : Int) != 48) = false := by simp [h48]
  unfold octB at hQ
  simp only [iiP, fstC, iiBody, bodyOf, Tryd.f41, Option.getD, cutTail, cutN, Option.map, Array.replicate_succ, Array.replicate_zero, List.push_toArray, List.append_toArray, List.nil_append, List.cons_append]
  go_wp2_with fail
  all_goals try (go_quiet (fail))
  all_goals (go_wp2_with fail)
  all_goals exact hQ _ _ ⟨rfl, rfl, rfl, rfl, rfl⟩ (below_drewN _ _ _)
set_option maxHeartbeats 3200000 in
theorem ii_mid {w : World} {s : ByteArray} (k2 : ¬ s.size < 2) (a : Act) (hz : SIi (.string s) (.string octB) (.string (s.extract 1 s.size)) a) (C : Code) (Q : Exit → Act → World → Prop) (hQ : ∀ a' w', SIi (.string s) (.string (intR s).1) (.string (intR s).2) a' → Below w.heap.size w w' → C.wp Tryd.prog Q a' w') :
    (Code.seq (iiP 3) C).wp Tryd.prog Q a w := by
  obtain ⟨x, rfl⟩ := hz.lit
  clear hz
  have k3 : 1 < s.size := by omega
  have k4 : (1 : Int) < (s.size : Int) := by omega
  have k6 : (2 : Int) ≤ (s.size : Int) := by omega
  unfold intR at hQ
  rw [get_bang s 1 k3] at hQ
  have hb : s[1].toNat < 256 := s[1].toNat_lt
  generalize hc : s[1].toNat = c at hQ hb
  have cast : ∀ n : Nat, c = n → ((c : Int) == (n : Int)) = true := fun n h => by simp [h]
  have castN : ∀ n : Nat, c ≠ n → ((c : Int) == (n : Int)) = false := fun n h => by simp; omega
  unfold octB hexB binB at hQ
  unfold octB
  by_cases x1 : c = 120 ∨ c = 88
  · rw [if_pos x1] at hQ
    simp only at hQ
    by_cases x2 : c = 120
    · have e1 : ((c : Int) == 120) = true := cast 120 x2
      simp only [iiP, fstC, iiBody, bodyOf, Tryd.f41, Option.getD, cutTail, cutN, Option.map]
      go_wp2_with fail
      all_goals try (go_quiet (fail))
      all_goals (go_wp2_with fail)
      all_goals exact hQ _ _ ⟨rfl, rfl, rfl, rfl, rfl⟩ (below_drewN _ _ _)
    · have e1 : ((c : Int) == 120) = false := castN 120 x2
      have e2 : ((c : Int) == 88) = true := cast 88 (x1.resolve_left x2)
      simp only [iiP, fstC, iiBody, bodyOf, Tryd.f41, Option.getD, cutTail, cutN, Option.map]
      go_wp2_with fail
      all_goals try (go_quiet (fail))
      all_goals (go_wp2_with fail)
      all_goals exact hQ _ _ ⟨rfl, rfl, rfl, rfl, rfl⟩ (below_drewN _ _ _)
  · rw [if_neg x1] at hQ
    have e1 : ((c : Int) == 120) = false := castN 120 (fun h => x1 (.inl h))
    have e2 : ((c : Int) == 88) = false := castN 88 (fun h => x1 (.inr h))
    by_cases x2 : c = 98 ∨ c = 66
    · rw [if_pos x2] at hQ
      simp only at hQ
      by_cases x3 : c = 98
      · have e3 : ((c : Int) == 98) = true := cast 98 x3
        simp only [iiP, fstC, iiBody, bodyOf, Tryd.f41, Option.getD, cutTail, cutN, Option.map]
        go_wp2_with fail
        all_goals try (go_quiet (fail))
        all_goals (go_wp2_with fail)
        all_goals exact hQ _ _ ⟨rfl, rfl, rfl, rfl, rfl⟩ (below_drewN _ _ _)
      · have e3 : ((c : Int) == 98) = false := castN 98 x3
        have e4 : ((c : Int) == 66) = true := cast 66 (x2.resolve_left x3)
        simp only [iiP, fstC, iiBody, bodyOf, Tryd.f41, Option.getD, cutTail, cutN, Option.map]
        go_wp2_with fail
        all_goals try (go_quiet (fail))
        all_goals (go_wp2_with fail)
        all_goals exact hQ _ _ ⟨rfl, rfl, rfl, rfl, rfl⟩ (below_drewN _ _ _)
    · rw [if_neg x2] at hQ
      have e3 : ((c : Int) == 98) = false := castN 98 (fun h => x2 (.inl h))
      have e4 : ((c : Int) == 66) = false := castN 66 (fun h => x2 (.inr h))
      by_cases x3 : c = 111 ∨ c = 79
      · rw [if_pos x3] at hQ
        simp only at hQ
        by_cases x4 : c = 111
        · have e5 : ((c : Int) == 111) = true := cast 111 x4
          simp only [iiP, fstC, iiBody, bodyOf, Tryd.f41, Option.getD, cutTail, cutN, Option.map]
          go_wp2_with fail
          all_goals exact hQ _ _ ⟨rfl, rfl, rfl, rfl, rfl⟩ (Below.refl _ _)
        · have e5 : ((c : Int) == 111) = false := castN 111 x4
          have e6 : ((c : Int) == 79) = true := cast 79 (x3.resolve_left x4)
          simp only [iiP, fstC, iiBody, bodyOf, Tryd.f41, Option.getD, cutTail, cutN, Option.map]
          go_wp2_with fail
          all_goals exact hQ _ _ ⟨rfl, rfl, rfl, rfl, rfl⟩ (Below.refl _ _)
      · rw [if_neg x3] at hQ
        simp only at hQ
        have e5 : ((c : Int) == 111) = false := castN 111 (fun h => x3 (.inl h))
        have e6 : ((c : Int) == 79) = false := castN 79 (fun h => x3 (.inr h))
        simp only [iiP, fstC, iiBody, bodyOf, Tryd.f41, Option.getD, cutTail, cutN, Option.map]
        go_wp2_with fail
        all_goals exact hQ _ _ ⟨rfl, rfl, rfl, rfl, rfl⟩ (Below.refl _ _)
theorem ii_last {w : World} {s d r : ByteArray} (hr : r.size ≤ 100000) (hd : d.size ≤ 1000) (a : Act) (hz : SIi (.string s) (.string d) (.string r) a) (Q : Exit → Act → World → Prop) (hQ : ∀ a', a'.defers = [] → a'.tmps[2]? = some (.bool (runF (trimU r) d)) → Q .ret a' w) : (cutTail 4 iiBody).wp Tryd.prog Q a w := by
  obtain ⟨x, rfl⟩ := hz.lit
  clear hz
  have hT := fun w => Tryd.strings_TrimPrefix r ⟨#[95]⟩ w
  have hR := fun w => run_walk w (trimU r) d (by have := trimU_size r; omega) hd
  have hT : ∀ w, Calls Tryd.prog 61 #[.string r, .string ⟨#[95]⟩] w fun e w' => e = .returned (.string (trimU r)) ∧ w' = w := hT
  generalize trimU r = t at hT hR hQ
  simp only [iiBody, bodyOf, Tryd.f41, Option.getD, cutTail, cutN, Option.map]
  go_wp2_with (first
    | (go_at_call 61; refine (hT _).mono ?_; rintro en w1 ⟨rfl, rfl⟩)
    | (go_at_call 43; refine (hR _).mono ?_; rintro en w1 ⟨rfl, rfl⟩))
  exact hQ _ rfl rfl
theorem isInt_walk (w : World) (s : ByteArray) (hs : s.size ≤ 100000) : Calls Tryd.prog 41 #[.string s] w fun e w' => e = .returned (.bool (isIntF s)) ∧ Below w.heap.size w w' := by
  refine calls_of_wp Tryd.func41 ii_body ?_
  have hnt : (Tryd.f41).ntmps - (#[.string s] : Array Value).size = 37 := by kernel_rfl
  rw [hnt]
  unfold isIntF
  by_cases h : s.size < 2 ∨ (s.get! 0).toNat ≠ 48
  · rw [if_pos h]
    exact ii_short hs h _ _ (fun a' d0 d2 => ⟨d0, _, one_res (k := 2) (by kernel_rfl) d2, rfl, Below.refl _ _⟩)
  · rw [if_neg h]
    have h1 : ¬ s.size < 2 := fun e => h (.inl e)
    have h2 : (s.get! 0).toNat = 48 := by
      by_cases e : (s.get! 0).toNat = 48
      · exact e
      · exact absurd (.inr e) h
    refine ii_head h1 h2 _ _ (fun a1 w1 z1 b1 => ?_)
    refine ii_mid h1 a1 z1 _ _ (fun a2 w2 z2 b2 => ?_)
    have hr : (intR s).2.size ≤ 100000 ∧ (intR s).1.size ≤ 1000 := by
      unfold intR
      split
      · exact ⟨by rw [ByteArray.size_extract]; omega, show hexB.size ≤ 1000 by decide⟩
      · split
        · exact ⟨by rw [ByteArray.size_extract]; omega, show binB.size ≤ 1000 by decide⟩
        · split
          · exact ⟨by rw [ByteArray.size_extract]; omega, show octB.size ≤ 1000 by decide⟩
          · exact ⟨by rw [ByteArray.size_extract]; omega, show octB.size ≤ 1000 by decide⟩
    exact ii_last hr.1 hr.2 a2 z2 _ (fun a' d0 d2 => ⟨d0, _, one_res (k := 2) (by kernel_rfl) d2, rfl, below_up b1 b2⟩)
end Sc
end Go.Proofs.YtogkcphobhhbdaaDoor

/- spec.isFloat and spec.KindOf walked. -/
namespace Go.Proofs.YtogkcphobhhbdaaDoor
open Go Go.RowKit Go.Lib
namespace Sc
open Ev
set_option maxRecDepth 100000
theorem cutN8_size (s b : ByteArray) : ∀ (n i : Nat), (cutN8 s b n i).1.size ≤ s.size ∧ (cutN8 s b n i).2.1.size ≤ s.size
  | 0, i => ⟨Nat.le_refl _, Nat.zero_le _⟩
  | n + 1, i => by
    simp only [cutN8]
    split
    · split
      · simp only [ByteArray.size_extract]; omega
      · exact cutN8_size s b n (i + 1)
    · exact ⟨Nat.le_refl _, Nat.zero_le _⟩
theorem cutF_size (s b : ByteArray) : (cutF s b).1.size ≤ s.size ∧ (cutF s b).2.1.size ≤ s.size := cutN8_size s b _ _
noncomputable abbrev ifBody : Code := bodyOf Tryd.f42
noncomputable abbrev ifP (n : Nat) : Code := fstC (cutTail n ifBody)
/-- What a condition's first branch is. -/
def thenOf : Code → Code
  | .seq _ b => thenOf b
  | .cond _ a _ => a
  | c => c
/-- A code with another first branch. -/
def setThen (L : Code) : Code → Code
  | .seq a b => .seq a (setThen L b)
  | .cond o _ b => .cond o L b
  | c => c
noncomputable abbrev hxBody : Code := thenOf (ifP 1)
noncomputable abbrev hxP (n : Nat) : Code := fstC (cutTail n hxBody)
theorem if_body : (Tryd.f42).body = some (.seq (ifP 0) (.seq (setThen hxBody (ifP 1)) (.seq (ifP 2) (.seq (ifP 3) (.seq (ifP 4) (cutTail 5 ifBody)))))) := by kernel_rfl
theorem hx_body : hxBody = .seq (hxP 0) (.seq (hxP 1) (.seq (hxP 2) (.seq (hxP 3) (cutTail 4 hxBody)))) := by kernel_rfl
/-- Known slots of a frame of 117. -/
structure SF1 (v0 : Value) (a : Act) : Prop where
  defers : a.defers = []
  size : a.tmps.size = 117
  s0 : a.tmps[0]? = some v0
theorem SF1.lit {v0 : Value} {a : Act} (h : SF1 v0 a) : ∃ x : Nat → Value, a = { tmps := #[v0, x 1, x 2, x 3, x 4, x 5, x 6, x 7, x 8, x 9, x 10, x 11, x 12, x 13, x 14, x 15, x 16, x 17, x 18, x 19, x 20, x 21, x 22, x 23, x 24, x 25, x 26, x 27, x 28, x 29, x 30, x 31, x 32, x 33, x 34, x 35, x 36, x 37, x 38, x 39, x 40, x 41, x 42, x 43, x 44, x 45, x 46, x 47, x 48, x 49, x 50, x 51, x 52, x 53, x 54, x 55, x 56, x 57, x 58, x 59, x 60, x 61, x 62, x 63, x 64, x 65, x 66, x 67, x 68, x 69, x 70, x 71, x 72, x 73, x 74, x 75, x 76, x 77, x 78, x 79, x 80, x 81, x 82, x 83, x 84, x 85, x 86, x 87, x 88, x 89, x 90, x 91, x 92, x 93, x 94, x 95, x 96, x 97, x 98, x 99, x 100, x 101, x 102, x 103, x 104, x 105, x 106, x 107, x 108, x 109, x 110, x 111, x 112, x 113, x 114, x 115, x 116], defers := [] } := by
  refine ⟨fun i => a.tmps.getD i undef, ?_⟩
  obtain ⟨t, d⟩ := a
  obtain ⟨h1, h2, k0⟩ := h
  simp only at h1 h2 k0
  subst h1
  have e0 : t.getD 0 undef = v0 := by rw [Array.getD_eq_getD_getElem?, k0]; rfl
  have ht := tmpsN 117 t h2
  rw [← e0]
  exact congrArg (fun t => ({ tmps := t, defers := [] } : Act)) ht
theorem SF1.of {v0 : Value} (x : Nat → Value) : SF1 v0 { tmps := #[v0, x 1, x 2, x 3, x 4, x 5, x 6, x 7, x 8, x 9, x 10, x 11, x 12, x 13, x 14, x 15, x 16, x 17, x 18, x 19, x 20, x 21, x 22, x 23, x 24, x 25, x 26, x 27, x 28, x 29, x 30, x 31, x 32, x 33, x 34, x 35, x 36, x 37, x 38, x 39, x 40, x 41, x 42, x 43, x 44, x 45, x 46, x 47, x 48, x 49, x 50, x 51, x 52, x 53, x 54, x 55, x 56, x 57, x 58, x 59, x 60, x 61, x 62, x 63, x 64, x 65, x 66, x 67, x 68, x 69, x 70, x 71, x 72, x 73, x 74, x 75, x 76, x 77, x 78, x 79, x 80, x 81, x 82, x 83, x 84, x 85, x 86, x 87, x 88, x 89, x 90, x 91, x 92, x 93, x 94, x 95, x 96, x 97, x 98, x 99, x 100, x 101, x 102, x 103, x 104, x 105, x 106, x 107, x 108, x 109, x 110, x 111, x 112, x 113, x 114, x 115, x 116], defers := [] } := ⟨rfl, rfl, rfl⟩
/-- Known slots of a frame of 117. -/
structure SF2 (ve vk vw vr vp : Value) (a : Act) : Prop where
  defers : a.defers = []
  size : a.tmps.size = 117
  s4 : a.tmps[4]? = some ve
  s5 : a.tmps[5]? = some vk
  s6 : a.tmps[6]? = some vw
  s7 : a.tmps[7]? = some vr
  s8 : a.tmps[8]? = some vp
theorem SF2.lit {ve vk vw vr vp : Value} {a : Act} (h : SF2 ve vk vw vr vp a) : ∃ x : Nat → Value, a = { tmps := #[x 0, x 1, x 2, x 3, ve, vk, vw, vr, vp, x 9, x 10, x 11, x 12, x 13, x 14, x 15, x 16, x 17, x 18, x 19, x 20, x 21, x 22, x 23, x 24, x 25, x 26, x 27, x 28, x 29, x 30, x 31, x 32, x 33, x 34, x 35, x 36, x 37, x 38, x 39, x 40, x 41, x 42, x 43, x 44, x 45, x 46, x 47, x 48, x 49, x 50, x 51, x 52, x 53, x 54, x 55, x 56, x 57, x 58, x 59, x 60, x 61, x 62, x 63, x 64, x 65, x 66, x 67, x 68, x 69, x 70, x 71, x 72, x 73, x 74, x 75, x 76, x 77, x 78, x 79, x 80, x 81, x 82, x 83, x 84, x 85, x 86, x 87, x 88, x 89, x 90, x 91, x 92, x 93, x 94, x 95, x 96, x 97, x 98, x 99, x 100, x 101, x 102, x 103, x 104, x 105, x 106, x 107, x 108, x 109, x 110, x 111, x 112, x 113, x 114, x 115, x 116], defers := [] } := by
  refine ⟨fun i => a.tmps.getD i undef, ?_⟩
  obtain ⟨t, d⟩ := a
  obtain ⟨h1, h2, k4, k5, k6, k7, k8⟩ := h
  simp only at h1 h2 k4 k5 k6 k7 k8
  subst h1
  have e4 : t.getD 4 undef = ve := by rw [Array.getD_eq_getD_getElem?, k4]; rfl
  have e5 : t.getD 5 undef = vk := by rw [Array.getD_eq_getD_getElem?, k5]; rfl
  have e6 : t.getD 6 undef = vw := by rw [Array.getD_eq_getD_getElem?, k6]; rfl
  have e7 : t.getD 7 undef = vr := by rw [Array.getD_eq_getD_getElem?, k7]; rfl
  have e8 : t.getD 8 undef = vp := by rw [Array.getD_eq_getD_getElem?, k8]; rfl
  have ht := tmpsN 117 t h2
  rw [← e4, ← e5, ← e6, ← e7, ← e8]
  exact congrArg (fun t => ({ tmps := t, defers := [] } : Act)) ht
theorem SF2.of {ve vk vw vr vp : Value} (x : Nat → Value) : SF2 ve vk vw vr vp { tmps := #[x 0, x 1, x 2, x 3, ve, vk, vw, vr, vp, x 9, x 10, x 11, x 12, x 13, x 14, x 15, x 16, x 17, x 18, x 19, x 20, x 21, x 22, x 23, x 24, x 25, x 26, x 27, x 28, x 29, x 30, x 31, x 32, x 33, x 34, x 35, x 36, x 37, x 38, x 39, x 40, x 41, x 42, x 43, x 44, x 45, x 46, x 47, x 48, x 49, x 50, x 51, x 52, x 53, x 54, x 55, x 56, x 57, x 58, x 59, x 60, x 61, x 62, x 63, x 64, x 65, x 66, x 67, x 68, x 69, x 70, x 71, x 72, x 73, x 74, x 75, x 76, x 77, x 78, x 79, x 80, x 81, x 82, x 83, x 84, x 85, x 86, x 87, x 88, x 89, x 90, x 91, x 92, x 93, x 94, x 95, x 96, x 97, x 98, x 99, x 100, x 101, x 102, x 103, x 104, x 105, x 106, x 107, x 108, x 109, x 110, x 111, x 112, x 113, x 114, x 115, x 116], defers := [] } := ⟨rfl, rfl, rfl, rfl, rfl, rfl, rfl⟩
/-- Known slots of a frame of 117. -/
structure SF3 (vr vb : Value) (a : Act) : Prop where
  defers : a.defers = []
  size : a.tmps.size = 117
  s7 : a.tmps[7]? = some vr
  s9 : a.tmps[9]? = some vb
theorem SF3.lit {vr vb : Value} {a : Act} (h : SF3 vr vb a) : ∃ x : Nat → Value, a = { tmps := #[x 0, x 1, x 2, x 3, x 4, x 5, x 6, vr, x 8, vb, x 10, x 11, x 12, x 13, x 14, x 15, x 16, x 17, x 18, x 19, x 20, x 21, x 22, x 23, x 24, x 25, x 26, x 27, x 28, x 29, x 30, x 31, x 32, x 33, x 34, x 35, x 36, x 37, x 38, x 39, x 40, x 41, x 42, x 43, x 44, x 45, x 46, x 47, x 48, x 49, x 50, x 51, x 52, x 53, x 54, x 55, x 56, x 57, x 58, x 59, x 60, x 61, x 62, x 63, x 64, x 65, x 66, x 67, x 68, x 69, x 70, x 71, x 72, x 73, x 74, x 75, x 76, x 77, x 78, x 79, x 80, x 81, x 82, x 83, x 84, x 85, x 86, x 87, x 88, x 89, x 90, x 91, x 92, x 93, x 94, x 95, x 96, x 97, x 98, x 99, x 100, x 101, x 102, x 103, x 104, x 105, x 106, x 107, x 108, x 109, x 110, x 111, x 112, x 113, x 114, x 115, x 116], defers := [] } := by
  refine ⟨fun i => a.tmps.getD i undef, ?_⟩
  obtain ⟨t, d⟩ := a
  obtain ⟨h1, h2, k7, k9⟩ := h
  simp only at h1 h2 k7 k9
  subst h1
  have e7 : t.getD 7 undef = vr := by rw [Array.getD_eq_getD_getElem?, k7]; rfl
  have e9 : t.getD 9 undef = vb := by rw [Array.getD_eq_getD_getElem?, k9]; rfl
  have ht := tmpsN 117 t h2
  rw [← e7, ← e9]
  exact congrArg (fun t => ({ tmps := t, defers := [] } : Act)) ht
theorem SF3.of {vr vb : Value} (x : Nat → Value) : SF3 vr vb { tmps := #[x 0, x 1, x 2, x 3, x 4, x 5, x 6, vr, x 8, vb, x 10, x 11, x 12, x 13, x 14, x 15, x 16, x 17, x 18, x 19, x 20, x 21, x 22, x 23, x 24, x 25, x 26, x 27, x 28, x 29, x 30, x 31, x 32, x 33, x 34, x 35, x 36, x 37, x 38, x 39, x 40, x 41, x 42, x 43, x 44, x 45, x 46, x 47, x 48, x 49, x 50, x 51, x 52, x 53, x 54, x 55, x 56, x 57, x 58, x 59, x 60, x 61, x 62, x 63, x 64, x 65, x 66, x 67, x 68, x 69, x 70, x 71, x 72, x 73, x 74, x 75, x 76, x 77, x 78, x 79, x 80, x 81, x 82, x 83, x 84, x 85, x 86, x 87, x 88, x 89, x 90, x 91, x 92, x 93, x 94, x 95, x 96, x 97, x 98, x 99, x 100, x 101, x 102, x 103, x 104, x 105, x 106, x 107, x 108, x 109, x 110, x 111, x 112, x 113, x 114, x 115, x 116], defers := [] } := ⟨rfl, rfl, rfl, rfl⟩
/-- Known slots of a frame of 117. -/
structure SF4 (ve vk vw vr vp : Value) (a : Act) : Prop where
  defers : a.defers = []
  size : a.tmps.size = 117
  s11 : a.tmps[11]? = some ve
  s12 : a.tmps[12]? = some vk
  s13 : a.tmps[13]? = some vw
  s14 : a.tmps[14]? = some vr
  s15 : a.tmps[15]? = some vp
theorem SF4.lit {ve vk vw vr vp : Value} {a : Act} (h : SF4 ve vk vw vr vp a) : ∃ x : Nat → Value, a = { tmps := #[x 0, x 1, x 2, x 3, x 4, x 5, x 6, x 7, x 8, x 9, x 10, ve, vk, vw, vr, vp, x 16, x 17, x 18, x 19, x 20, x 21, x 22, x 23, x 24, x 25, x 26, x 27, x 28, x 29, x 30, x 31, x 32, x 33, x 34, x 35, x 36, x 37, x 38, x 39, x 40, x 41, x 42, x 43, x 44, x 45, x 46, x 47, x 48, x 49, x 50, x 51, x 52, x 53, x 54, x 55, x 56, x 57, x 58, x 59, x 60, x 61, x 62, x 63, x 64, x 65, x 66, x 67, x 68, x 69, x 70, x 71, x 72, x 73, x 74, x 75, x 76, x 77, x 78, x 79, x 80, x 81, x 82, x 83, x 84, x 85, x 86, x 87, x 88, x 89, x 90, x 91, x 92, x 93, x 94, x 95, x 96, x 97, x 98, x 99, x 100, x 101, x 102, x 103, x 104, x 105, x 106, x 107, x 108, x 109, x 110, x 111, x 112, x 113, x 114, x 115, x 116], defers := [] } := by
  refine ⟨fun i => a.tmps.getD i undef, ?_⟩
  obtain ⟨t, d⟩ := a
  obtain ⟨h1, h2, k11, k12, k13, k14, k15⟩ := h
  simp only at h1 h2 k11 k12 k13 k14 k15
  subst h1
  have e11 : t.getD 11 undef = ve := by rw [Array.getD_eq_getD_getElem?, k11]; rfl
  have e12 : t.getD 12 undef = vk := by rw [Array.getD_eq_getD_getElem?, k12]; rfl
  have e13 : t.getD 13 undef = vw := by rw [Array.getD_eq_getD_getElem?, k13]; rfl
  have e14 : t.getD 14 undef = vr := by rw [Array.getD_eq_getD_getElem?, k14]; rfl
  have e15 : t.getD 15 undef = vp := by rw [Array.getD_eq_getD_getElem?, k15]; rfl
  have ht := tmpsN 117 t h2
  rw [← e11, ← e12, ← e13, ← e14, ← e15]
  exact congrArg (fun t => ({ tmps := t, defers := [] } : Act)) ht
theorem SF4.of {ve vk vw vr vp : Value} (x : Nat → Value) : SF4 ve vk vw vr vp { tmps := #[x 0, x 1, x 2, x 3, x 4, x 5, x 6, x 7, x 8, x 9, x 10, ve, vk, vw, vr, vp, x 16, x 17, x 18, x 19, x 20, x 21, x 22, x 23, x 24, x 25, x 26, x 27, x 28, x 29, x 30, x 31, x 32, x 33, x 34, x 35, x 36, x 37, x 38, x 39, x 40, x 41, x 42, x 43, x 44, x 45, x 46, x 47, x 48, x 49, x 50, x 51, x 52, x 53, x 54, x 55, x 56, x 57, x 58, x 59, x 60, x 61, x 62, x 63, x 64, x 65, x 66, x 67, x 68, x 69, x 70, x 71, x 72, x 73, x 74, x 75, x 76, x 77, x 78, x 79, x 80, x 81, x 82, x 83, x 84, x 85, x 86, x 87, x 88, x 89, x 90, x 91, x 92, x 93, x 94, x 95, x 96, x 97, x 98, x 99, x 100, x 101, x 102, x 103, x 104, x 105, x 106, x 107, x 108, x 109, x 110, x 111, x 112, x 113, x 114, x 115, x 116], defers := [] } := ⟨rfl, rfl, rfl, rfl, rfl, rfl, rfl⟩
set_option maxHeartbeats 1600000 in
theorem if_head {w : World} {s : ByteArray} (L C : Code) (Q : Exit → Act → World → Prop)
    (h1 : isHexP s = true → ∀ a, SF1 (.string s) a → L.wp Tryd.prog (Exit.then (fun a w => C.wp Tryd.prog Q a w) Q) a w)
    (h2 : isHexP s = false → ∀ a, SF1 (.string s) a → C.wp Tryd.prog Q a w) :
    (Code.seq (ifP 0) (.seq (setThen L (ifP 1)) C)).wp Tryd.prog Q { tmps := #[.string s] ++ Array.replicate 116 undef, defers := [] } w := by
  have hP1 := fun w => Tryd.strings_HasPrefix s ⟨#[48, 120]⟩ w
  have hP2 := fun w => Tryd.strings_HasPrefix s ⟨#[48, 88]⟩ w
  unfold isHexP at h1 h2
  generalize hp1 : Lib.hasPrefix s.data.toList [48, 120] = p1 at h1 h2
  generalize hp2 : Lib.hasPrefix s.data.toList [48, 88] = p2 at h1 h2
  have hP1 : ∀ w, Calls Tryd.prog 36 #[.string s, .string ⟨#[48, 120]⟩] w fun e w' => e = .returned (.bool p1) ∧ w' = w := fun w => by rw [← hp1]; exact hP1 w
  have hP2 : ∀ w, Calls Tryd.prog 36 #[.string s, .string ⟨#[48, 88]⟩] w fun e w' => e = .returned (.bool p2) ∧ w' = w := fun w => by rw [← hp2]; exact hP2 w
  clear hp1 hp2
  simp only [ifP, fstC, ifBody, bodyOf, Tryd.f42, Option.getD, cutTail, cutN, Option.map, setThen, Array.replicate_succ, Array.replicate_zero, List.push_toArray, List.append_toArray, List.nil_append, List.cons_append]
  cases p1 with
  | true =>
    have g1 := h1 rfl
    clear h1 h2
    go_wp2_with (go_at_call 36; refine (hP1 _).mono ?_; rintro en w1 ⟨rfl, rfl⟩)
    rename_i K hK
    refine Code.wp_mono (fun e a w h => ?_) (g1 _ ⟨rfl, rfl, rfl⟩)
    cases e <;> first | exact hK _ _ h | exact h
  | false =>
    cases p2 with
    | true =>
      have g1 := h1 rfl
      clear h1 h2
      go_wp2_with (first
        | (go_at_call 36; refine (hP1 _).mono ?_; rintro en w1 ⟨rfl, rfl⟩)
        | (go_at_call 36; refine (hP2 _).mono ?_; rintro en w1 ⟨rfl, rfl⟩))
      rename_i K hK
      refine Code.wp_mono (fun e a w h => ?_) (g1 _ ⟨rfl, rfl, rfl⟩)
      cases e <;> first | exact hK _ _ h | exact h
    | false =>
      have g2 := h2 rfl
      clear h1 h2
      go_wp2_with (first
        | (go_at_call 36; refine (hP1 _).mono ?_; rintro en w1 ⟨rfl, rfl⟩)
        | (go_at_call 36; refine (hP2 _).mono ?_; rintro en w1 ⟨rfl, rfl⟩))
      exact g2 _ ⟨rfl, rfl, rfl⟩
set_option maxHeartbeats 1600000 in
theorem hx_cuts {w : World} {s m e wh re : ByteArray} {ok pt : Bool} (hs : s.size ≤ 100000) (h2 : 2 ≤ s.size) (hc1 : cutF (s.extract 2 s.size) pP = (m, e, ok)) (hc2 : cutF m dotB = (wh, re, pt)) (a : Act) (hz : SF1 (.string s) a) (C : Code) (Q : Exit → Act → World → Prop)
    (hQ : ∀ a' w', SF2 (.string e) (.bool ok) (.string wh) (.string re) (.bool pt) a' → Below w.heap.size w w' → C.wp Tryd.prog Q a' w') : (Code.seq (hxP 0) (.seq (hxP 1) C)).wp Tryd.prog Q a w := by
  obtain ⟨x, rfl⟩ := hz.lit
  clear hz
  have k6 : (2 : Int) ≤ (s.size : Int) := by omega
  have hC1 := fun w => cut_walk w (s.extract 2 s.size) pP (by rw [ByteArray.size_extract]; omega)
  have hms : m.size ≤ 100000 := by
    have := (cutF_size (s.extract 2 s.size) pP).1
    rw [hc1, ByteArray.size_extract] at this
    simp only at this
    omega
  have hC2 := fun w => cut_walk w m dotB (by omega)
  rw [hc1] at hC1
  rw [hc2] at hC2
  clear hc1 hc2
  unfold pP at hC1
  unfold dotB at hC2
  simp only at hC1 hC2
  simp only [hxP, fstC, hxBody, thenOf, ifP, ifBody, bodyOf, Tryd.f42, Option.getD, cutTail, cutN, Option.map]
  go_wp2_with (first
    | (go_at_call 62; have hh := hB2; refine (hC2 _).mono ?_; rintro en w3 ⟨rfl, hB3⟩)
    | (go_at_call 62; refine (hC1 _).mono ?_; rintro en w2 ⟨rfl, hB2⟩))
  exact hQ _ _ ⟨rfl, rfl, rfl, rfl, rfl, rfl, rfl⟩ (below_up hB2 hB3)
end Sc
end Go.Proofs.YtogkcphobhhbdaaDoor

/- spec.isFloat and spec.KindOf walked. -/
namespace Go.Proofs.YtogkcphobhhbdaaDoor
open Go Go.RowKit Go.Lib
namespace Sc
open Ev
set_option maxRecDepth 100000
set_option maxHeartbeats 1600000 in
theorem hx_if {w : World} {e wh re : ByteArray} {ok pt : Bool} (he : e.size ≤ 100000) (a : Act) (hz : SF2 (.string e) (.bool ok) (.string wh) (.string re) (.bool pt) a) (C : Code) (Q : Exit → Act → World → Prop)
    (h1 : ((!ok || !expOkF e) || (emp wh && emp re)) = true → ∀ a', a'.defers = [] → a'.tmps[2]? = some (.bool false) → Q .ret a' w)
    (h2 : ((!ok || !expOkF e) || (emp wh && emp re)) = false → ∀ a', SF2 (.string e) (.bool ok) (.string wh) (.string re) (.bool pt) a' → C.wp Tryd.prog Q a' w) : (Code.seq (hxP 2) C).wp Tryd.prog Q a w := by
  obtain ⟨x, rfl⟩ := hz.lit
  clear hz
  have hE := fun w => expOk_walk w e he
  unfold emp at h1 h2
  generalize expOkF e = eo at hE h1 h2
  generalize he1 : wh.toList.isEmpty = ew at h1 h2
  generalize he2 : re.toList.isEmpty = er at h1 h2
  simp only [hxP, fstC, hxBody, thenOf, ifP, ifBody, bodyOf, Tryd.f42, Option.getD, cutTail, cutN, Option.map]
  have key : ok = false ∨ (ok = true ∧ eo = false) ∨ (ok = true ∧ eo = true ∧ ew = false) ∨ (ok = true ∧ eo = true ∧ ew = true ∧ er = false) ∨ (ok = true ∧ eo = true ∧ ew = true ∧ er = true) := by cases ok <;> cases eo <;> cases ew <;> cases er <;> simp
  rcases key with rfl | ⟨rfl, rfl⟩ | ⟨rfl, rfl, rfl⟩ | ⟨rfl, rfl, rfl, rfl⟩ | ⟨rfl, rfl, rfl, rfl⟩
  all_goals
    (first
      | (have g1 := h1 rfl; clear h1 h2; go_wp2_with (go_at_call 63; refine (hE _).mono ?_; rintro en w4 ⟨rfl, rfl⟩); exact g1 _ rfl rfl)
      | (have g2 := h2 rfl; clear h1 h2; go_wp2_with (go_at_call 63; refine (hE _).mono ?_; rintro en w4 ⟨rfl, rfl⟩); exact g2 _ ⟨rfl, rfl, rfl, rfl, rfl, rfl, rfl⟩))
set_option maxHeartbeats 1600000 in
theorem hx_whole {w : World} {e wh re : ByteArray} {ok pt : Bool} (hw : wh.size ≤ 100000) (a : Act) (hz : SF2 (.string e) (.bool ok) (.string wh) (.string re) (.bool pt) a) (C : Code) (Q : Exit → Act → World → Prop)
    (hQ : ∀ a', SF3 (.string re) (.bool (runF (trimU wh) hexB || (emp wh && pt))) a' → C.wp Tryd.prog Q a' w) : (Code.seq (hxP 3) C).wp Tryd.prog Q a w := by
  obtain ⟨x, rfl⟩ := hz.lit
  clear hz
  have hT := fun w => Tryd.strings_TrimPrefix wh ⟨#[95]⟩ w
  have hT : ∀ w, Calls Tryd.prog 61 #[.string wh, .string ⟨#[95]⟩] w fun e w' => e = .returned (.string (trimU wh)) ∧ w' = w := hT
  have hR1 := fun w => run_walk w (trimU wh) hexB (by have := trimU_size wh; omega) (by decide)
  unfold emp at hQ
  generalize trimU wh = tw at hT hR1 hQ
  generalize runF tw hexB = r1 at hR1 hQ
  generalize he1 : wh.toList.isEmpty = ew at hQ
  unfold hexB at hR1
  simp only [hxP, fstC, hxBody, thenOf, ifP, ifBody, bodyOf, Tryd.f42, Option.getD, cutTail, cutN, Option.map]
  have key : r1 = true ∨ (r1 = false ∧ ew = false) ∨ (r1 = false ∧ ew = true ∧ pt = false) ∨ (r1 = false ∧ ew = true ∧ pt = true) := by cases r1 <;> cases ew <;> cases pt <;> simp
  rcases key with rfl | ⟨rfl, rfl⟩ | ⟨rfl, rfl, rfl⟩ | ⟨rfl, rfl, rfl⟩
  all_goals
    go_wp2_with (first
      | (go_at_call 61; refine (hT _).mono ?_; rintro en w5 ⟨rfl, rfl⟩)
      | (go_at_call 43; refine (hR1 _).mono ?_; rintro en w6 ⟨rfl, rfl⟩))
    exact hQ _ ⟨rfl, rfl, rfl, rfl⟩
set_option maxHeartbeats 1600000 in
theorem hx_last {w : World} {re : ByteArray} {b : Bool} (hr : re.size ≤ 100000) (a : Act) (hz : SF3 (.string re) (.bool b) a) (Q : Exit → Act → World → Prop)
    (hQ : ∀ a', a'.defers = [] → a'.tmps[2]? = some (.bool (b && (emp re || runF re hexB))) → Q .ret a' w) : (cutTail 4 hxBody).wp Tryd.prog Q a w := by
  obtain ⟨x, rfl⟩ := hz.lit
  clear hz
  have hR2 := fun w => run_walk w re hexB (by omega) (by decide)
  unfold emp at hQ
  generalize runF re hexB = r2 at hR2 hQ
  generalize he2 : re.toList.isEmpty = er at hQ
  unfold hexB at hR2
  simp only [hxBody, thenOf, fstC, ifP, ifBody, bodyOf, Tryd.f42, Option.getD, cutTail, cutN, Option.map]
  have key : b = false ∨ (b = true ∧ er = true) ∨ (b = true ∧ er = false ∧ r2 = false) ∨ (b = true ∧ er = false ∧ r2 = true) := by cases b <;> cases er <;> cases r2 <;> simp
  rcases key with rfl | ⟨rfl, rfl⟩ | ⟨rfl, rfl, rfl⟩ | ⟨rfl, rfl, rfl⟩
  all_goals
    go_wp2_with (go_at_call 43; refine (hR2 _).mono ?_; rintro en w7 ⟨rfl, rfl⟩)
    exact hQ _ rfl rfl
end Sc
end Go.Proofs.YtogkcphobhhbdaaDoor

/- spec.isFloat and spec.KindOf walked. -/
namespace Go.Proofs.YtogkcphobhhbdaaDoor
open Go Go.RowKit Go.Lib
namespace Sc
open Ev
set_option maxRecDepth 100000
set_option maxHeartbeats 1600000 in
theorem fl_cuts {w : World} {s m e wh re : ByteArray} {ok pt : Bool} (hs : s.size ≤ 100000) (hc1 : cutF s eE = (m, e, ok)) (hc2 : cutF m dotB = (wh, re, pt)) (a : Act) (hz : SF1 (.string s) a) (C : Code) (Q : Exit → Act → World → Prop)
    (hQ : ∀ a' w', SF4 (.string e) (.bool ok) (.string wh) (.string re) (.bool pt) a' → Below w.heap.size w w' → C.wp Tryd.prog Q a' w') : (Code.seq (ifP 2) (.seq (ifP 3) C)).wp Tryd.prog Q a w := by
  obtain ⟨x, rfl⟩ := hz.lit
  clear hz
  have hC1 := fun w => cut_walk w s eE hs
  have hms : m.size ≤ 100000 := by
    have := (cutF_size s eE).1
    rw [hc1] at this
    simp only at this
    omega
  have hC2 := fun w => cut_walk w m dotB (by omega)
  rw [hc1] at hC1
  rw [hc2] at hC2
  clear hc1 hc2
  unfold eE at hC1
  unfold dotB at hC2
  simp only at hC1 hC2
  simp only [fstC, ifP, ifBody, bodyOf, Tryd.f42, Option.getD, cutTail, cutN, Option.map]
  go_wp2_with (first
    | (go_at_call 62; have hh := hB2; refine (hC2 _).mono ?_; rintro en w3 ⟨rfl, hB3⟩)
    | (go_at_call 62; refine (hC1 _).mono ?_; rintro en w2 ⟨rfl, hB2⟩))
  exact hQ _ _ ⟨rfl, rfl, rfl, rfl, rfl, rfl, rfl⟩ (below_up hB2 hB3)
end Sc
end Go.Proofs.YtogkcphobhhbdaaDoor

/- spec.isFloat and spec.KindOf walked. -/
namespace Go.Proofs.YtogkcphobhhbdaaDoor
open Go Go.RowKit Go.Lib
namespace Sc
open Ev
set_option maxRecDepth 100000
set_option maxHeartbeats 12800000 in
theorem fl_if {w : World} {e wh re : ByteArray} {ok pt : Bool} (he : e.size ≤ 100000) (a : Act) (hz : SF4 (.string e) (.bool ok) (.string wh) (.string re) (.bool pt) a) (C : Code) (Q : Exit → Act → World → Prop)
    (h1 : (((ok && !expOkF e) || (!ok && !pt)) || (emp wh && emp re)) = true → ∀ a', a'.defers = [] → a'.tmps[2]? = some (.bool false) → Q .ret a' w)
    (h2 : (((ok && !expOkF e) || (!ok && !pt)) || (emp wh && emp re)) = false → ∀ a', SF4 (.string e) (.bool ok) (.string wh) (.string re) (.bool pt) a' → C.wp Tryd.prog Q a' w) : (Code.seq (ifP 4) C).wp Tryd.prog Q a w := by
  obtain ⟨x, rfl⟩ := hz.lit
  clear hz
  have hE := fun w => expOk_walk w e he
  unfold emp at h1 h2
  generalize expOkF e = eo at hE h1 h2
  generalize he1 : wh.toList.isEmpty = ew at h1 h2
  generalize he2 : re.toList.isEmpty = er at h1 h2
  simp only [fstC, ifP, ifBody, bodyOf, Tryd.f42, Option.getD, cutTail, cutN, Option.map]
  have key : (ok = true ∧ eo = false) ∨ (ok = false ∧ pt = false) ∨ (ok = true ∧ eo = true ∧ ew = false) ∨ (ok = true ∧ eo = true ∧ ew = true ∧ er = false) ∨ (ok = true ∧ eo = true ∧ ew = true ∧ er = true) ∨
      (ok = false ∧ pt = true ∧ ew = false) ∨ (ok = false ∧ pt = true ∧ ew = true ∧ er = false) ∨ (ok = false ∧ pt = true ∧ ew = true ∧ er = true) := by cases ok <;> cases eo <;> cases ew <;> cases er <;> cases pt <;> simp
  rcases key with ⟨rfl, rfl⟩ | ⟨rfl, rfl⟩ | ⟨rfl, rfl, rfl⟩ | ⟨rfl, rfl, rfl, rfl⟩ | ⟨rfl, rfl, rfl, rfl⟩ | ⟨rfl, rfl, rfl⟩ | ⟨rfl, rfl, rfl, rfl⟩ | ⟨rfl, rfl, rfl, rfl⟩
  all_goals
    (first
      | (have g1 := h1 rfl; clear h1 h2; go_wp2_with (go_at_call 63; refine (hE _).mono ?_; rintro en w4 ⟨rfl, rfl⟩); exact g1 _ rfl rfl)
      | (have g2 := h2 rfl; clear h1 h2; go_wp2_with (go_at_call 63; refine (hE _).mono ?_; rintro en w4 ⟨rfl, rfl⟩); exact g2 _ ⟨rfl, rfl, rfl, rfl, rfl, rfl, rfl⟩))
end Sc
end Go.Proofs.YtogkcphobhhbdaaDoor

/- spec.isFloat and spec.KindOf walked. -/
namespace Go.Proofs.YtogkcphobhhbdaaDoor
open Go Go.RowKit Go.Lib
namespace Sc
open Ev
set_option maxRecDepth 100000
set_option maxHeartbeats 3200000 in
theorem fl_last {w : World} {e wh re : ByteArray} {ok pt : Bool} (hw : wh.size ≤ 100000) (hr : re.size ≤ 100000) (a : Act) (hz : SF4 (.string e) (.bool ok) (.string wh) (.string re) (.bool pt) a) (Q : Exit → Act → World → Prop)
    (hQ : ∀ a', a'.defers = [] → a'.tmps[2]? = some (.bool ((emp wh || runF wh decB) && (emp re || runF re decB))) → Q .ret a' w) : (cutTail 5 ifBody).wp Tryd.prog Q a w := by
  obtain ⟨x, rfl⟩ := hz.lit
  clear hz
  have hR1 := fun w => run_walk w wh decB (by omega) (by decide)
  have hR2 := fun w => run_walk w re decB (by omega) (by decide)
  unfold emp at hQ
  generalize runF wh decB = r1 at hR1 hQ
  generalize runF re decB = r2 at hR2 hQ
  generalize he1 : wh.toList.isEmpty = ew at hQ
  generalize he2 : re.toList.isEmpty = er at hQ
  unfold decB at hR1 hR2
  simp only [ifBody, bodyOf, Tryd.f42, Option.getD, cutTail, cutN, Option.map]
  have key : (ew = true ∧ er = true) ∨ (ew = true ∧ er = false ∧ r2 = false) ∨ (ew = true ∧ er = false ∧ r2 = true) ∨ (ew = false ∧ r1 = false) ∨ (ew = false ∧ r1 = true ∧ er = true) ∨ (ew = false ∧ r1 = true ∧ er = false ∧ r2 = false) ∨ (ew = false ∧ r1 = true ∧ er = false ∧ r2 = true) := by cases ew <;> cases er <;> cases r1 <;> cases r2 <;> simp
  rcases key with ⟨rfl, rfl⟩ | ⟨rfl, rfl, rfl⟩ | ⟨rfl, rfl, rfl⟩ | ⟨rfl, rfl⟩ | ⟨rfl, rfl, rfl⟩ | ⟨rfl, rfl, rfl, rfl⟩ | ⟨rfl, rfl, rfl, rfl⟩
  all_goals
    go_wp2_with (first
      | (go_at_call 43; with_reducible refine (hR1 _).mono ?_; rintro en w6 ⟨rfl, rfl⟩)
      | (go_at_call 43; with_reducible refine (hR2 _).mono ?_; rintro en w7 ⟨rfl, rfl⟩))
    exact hQ _ rfl rfl
end Sc
end Go.Proofs.YtogkcphobhhbdaaDoor

/- spec.isFloat and spec.KindOf walked. -/
namespace Go.Proofs.YtogkcphobhhbdaaDoor
open Go Go.RowKit Go.Lib
namespace Sc
open Ev
set_option maxRecDepth 100000
theorem isFloat_walk (w : World) (s : ByteArray) (hs : s.size ≤ 100000) : Calls Tryd.prog 42 #[.string s] w fun e w' => e = .returned (.bool (isFloatF s)) ∧ Below w.heap.size w w' := by
  refine calls_of_wp Tryd.func42 if_body ?_
  have hnt : (Tryd.f42).ntmps - (#[.string s] : Array Value).size = 116 := by kernel_rfl
  rw [hnt]
  have fin : ∀ (b : Bool) (a' : Act) (w' : World), isFloatF s = b → Below w.heap.size w w' → a'.defers = [] → a'.tmps[2]? = some (.bool b) → bodyPost Tryd.prog Tryd.f42 (fun e w' => e = .returned (.bool (isFloatF s)) ∧ Below w.heap.size w w') .ret a' w' := fun b a' w' hb hB d0 d2 => ⟨d0, _, one_res (k := 2) (by kernel_rfl) d2, by rw [hb], hB⟩
  refine if_head _ _ _ (fun hh a z => ?_) (fun hh a z => ?_)
  · have h2 : 2 ≤ s.size := by
      have hl : s.data.toList.length = s.size := size_toList s
      unfold isHexP Lib.hasPrefix at hh
      rw [Bool.or_eq_true] at hh
      rcases hh with h | h <;> (have := List.IsPrefix.length_le (List.isPrefixOf_iff_prefix.1 h); simp at this; omega)
    have hf : isFloatF s = hexFl (cutF (s.extract 2 s.size) pP) (cutF (cutF (s.extract 2 s.size) pP).1 dotB) := if_pos hh
    rcases hc : cutF (s.extract 2 s.size) pP with ⟨m, e, ok⟩
    rcases hd : cutF m dotB with ⟨wh, re, pt⟩
    have z1 := cutF_size (s.extract 2 s.size) pP
    have z2 := cutF_size m dotB
    rw [hc, ByteArray.size_extract] at z1
    rw [hd] at z2
    simp only at z1 z2
    rw [hc] at hf
    simp only at hf
    rw [hd] at hf
    unfold hexFl at hf
    simp only at hf
    rw [hx_body]
    refine hx_cuts hs h2 hc hd a z _ _ (fun a1 w1 z3 b1 => ?_)
    refine hx_if (by omega) a1 z3 _ _ (fun hb a2 d0 d2 => ?_) (fun hb a2 z4 => ?_)
    · rw [if_pos hb] at hf
      exact fin false a2 w1 hf b1 d0 d2
    · rw [if_neg (by rw [hb]; decide)] at hf
      refine hx_whole (by omega) a2 z4 _ _ (fun a3 z5 => ?_)
      exact hx_last (by omega) a3 z5 _ (fun a4 d0 d2 => fin _ a4 w1 hf b1 d0 d2)
  · have hf : isFloatF s = decFl (cutF s eE) (cutF (cutF s eE).1 dotB) := if_neg (by rw [hh]; decide)
    rcases hc : cutF s eE with ⟨m, e, ok⟩
    rcases hd : cutF m dotB with ⟨wh, re, pt⟩
    have z1 := cutF_size s eE
    have z2 := cutF_size m dotB
    rw [hc] at z1
    rw [hd] at z2
    simp only at z1 z2
    rw [hc] at hf
    simp only at hf
    rw [hd] at hf
    unfold decFl at hf
    simp only at hf
    refine fl_cuts hs hc hd a z _ _ (fun a1 w1 z3 b1 => ?_)
    refine fl_if (by omega) a1 z3 _ _ (fun hb a2 d0 d2 => ?_) (fun hb a2 z4 => ?_)
    · rw [if_pos hb] at hf
      exact fin false a2 w1 hf b1 d0 d2
    · rw [if_neg (by rw [hb]; decide)] at hf
      exact fl_last (by omega) (by omega) a2 z4 _ (fun a4 d0 d2 => fin _ a4 w1 hf b1 d0 d2)
end Sc
end Go.Proofs.YtogkcphobhhbdaaDoor

/- Plain: what the specification calls a number, as a number's parts. -/
namespace Go.Proofs.YtogkcphobhhbdaaDoor
open Go Go.RowKit Go.Lib
namespace Sc
open Ev
set_option maxRecDepth 100000
/-- The numbers among a set's bytes. -/
theorem mem_tab (b : ByteArray) (P : Int → Bool) (h : (b.data.toList.all fun x => P ((x.toNat : Nat) : Int)) = true) {x : Int} (h0 : 0 ≤ x) (h1 : x < 256) (hm : memB b x = true) : P x = true := by
  unfold memB at hm
  rw [inByte_iff] at hm
  have := List.all_eq_true.1 h _ hm
  rw [UInt8.toNat_ofNat'] at this
  rw [show ((x.toNat % 2 ^ 8 : Nat) : Int) = x by omega] at this
  exact this
theorem memB_dec {x : Int} (h0 : 0 ≤ x) (h1 : x < 256) (h : memB decB x = true) : 48 ≤ x ∧ x ≤ 57 := by
  have := mem_tab decB (fun x => decide (48 ≤ x) && decide (x ≤ 57)) (by kernel_rfl) h0 h1 h
  simpa using this
theorem memB_oct {x : Int} (h0 : 0 ≤ x) (h1 : x < 256) (h : memB octB x = true) : 48 ≤ x ∧ x ≤ 55 := by
  have := mem_tab octB (fun x => decide (48 ≤ x) && decide (x ≤ 55)) (by kernel_rfl) h0 h1 h
  simpa using this
theorem memB_bin {x : Int} (h0 : 0 ≤ x) (h1 : x < 256) (h : memB binB x = true) : 48 ≤ x ∧ x ≤ 49 := by
  have := mem_tab binB (fun x => decide (48 ≤ x) && decide (x ≤ 49)) (by kernel_rfl) h0 h1 h
  simpa using this
theorem memB_hex {x : Int} (h0 : 0 ≤ x) (h1 : x < 256) (h : memB hexB x = true) : isHexF x = true :=
  mem_tab hexB (fun x => isHexF x) (by kernel_rfl) h0 h1 h
theorem dec_of {x : Int} (h0 : 48 ≤ x) (h1 : x ≤ 57) : isDecimalF x = true := by unfold isDecimalF; simp [h0, h1]
/-- A run to a base: all its characters are digits to it, or low lines. -/
structure RunOk (base : Int) (hex : Bool) (prev : Bool) (l : List Int) : Prop where
  all : ∀ x ∈ l, digU base x = true
  sep : ∀ d, (prev = true → d = 48) → sepL hex d l = some 48
  dg : prev = false → hasDg l = true
  bad : base ≤ 10 → badDg (48 + base) l = false
theorem run_ok {base : Int} {hex prev : Bool} {D : Int → Bool} {l : List Int} (h : runA D prev l = true) (hin : ∀ x ∈ l, 0 ≤ x ∧ x < 256) (hD : ∀ x, 0 ≤ x → x < 256 → D x = true → digU base x = true ∧ (isDecimalF x = true ∨ (hex = true ∧ isHexF x = true)) ∧ (base ≤ 10 → x < 48 + base)) : RunOk base hex prev l := by
  have h95 : digU base 95 = true := by unfold digU; split <;> decide
  -- the digits of this text
  have hA : runA (fun x => D x && decide (0 ≤ x ∧ x < 256)) prev l = true := by
    rw [runA_iff] at h ⊢
    refine ⟨fun x hx => ?_, h.2⟩
    rcases h.1 x hx with h1 | h1
    · left; have := hin x hx; simp [h1, this]
    · exact .inr h1
  have spl : ∀ x, (D x && decide (0 ≤ x ∧ x < 256)) = true → D x = true ∧ 0 ≤ x ∧ x < 256 := fun x hx => by simpa using hx
  refine ⟨fun x hx => ?_, fun d hd => runA_sep (hex := hex) (fun x hx => ?_) hA hd, fun hp => ?_, fun hb => ?_⟩
  · rcases runA_all h x hx with h1 | h1
    · exact (hD x (hin x hx).1 (hin x hx).2 h1).1
    · rw [h1]; exact h95
  · obtain ⟨g1, g2, g3⟩ := spl x hx
    exact (hD x g2 g3 g1).2.1
  · subst hp; exact runA_dg h
  · unfold badDg
    rw [List.any_eq_false]
    intro x hx
    rcases runA_all h x hx with h1 | h1
    · have := (hD x (hin x hx).1 (hin x hx).2 h1).2.2 hb
      simp; omega
    · simp [h1]
theorem run_dec {hex prev : Bool} {l : List Int} (h : runA (memB decB) prev l = true) (hin : ∀ x ∈ l, 0 ≤ x ∧ x < 256) : RunOk 10 hex prev l :=
  run_ok h hin (fun x h0 h1 hx => by
    have := memB_dec h0 h1 hx
    have d := dec_of this.1 this.2
    exact ⟨by show decU x = true; unfold decU; rw [d]; rfl, .inl d, fun _ => by omega⟩)
theorem run_oct {prev : Bool} {l : List Int} (h : runA (memB octB) prev l = true) (hin : ∀ x ∈ l, 0 ≤ x ∧ x < 256) : RunOk 8 false prev l :=
  run_ok h hin (fun x h0 h1 hx => by
    have := memB_oct h0 h1 hx
    have d := dec_of this.1 (by omega)
    exact ⟨by show decU x = true; unfold decU; rw [d]; rfl, .inl d, fun _ => by omega⟩)
theorem run_bin {prev : Bool} {l : List Int} (h : runA (memB binB) prev l = true) (hin : ∀ x ∈ l, 0 ≤ x ∧ x < 256) : RunOk 2 false prev l :=
  run_ok h hin (fun x h0 h1 hx => by
    have := memB_bin h0 h1 hx
    have d := dec_of this.1 (by omega)
    exact ⟨by show decU x = true; unfold decU; rw [d]; rfl, .inl d, fun _ => by omega⟩)
theorem run_hex {prev : Bool} {l : List Int} (h : runA (memB hexB) prev l = true) (hin : ∀ x ∈ l, 0 ≤ x ∧ x < 256) : RunOk 16 true prev l :=
  run_ok h hin (fun x h0 h1 hx => by
    have := memB_hex h0 h1 hx
    exact ⟨by show hexU x = true; unfold hexU; rw [this]; rfl, .inr ⟨rfl, this⟩, fun h => by omega⟩)
/-- TrimPrefix of a low line. -/
theorem trimU_bts (s : ByteArray) : bts (trimU s) = match bts s with | 95 :: t => t | l => l := by
  have hd : s.data.toList = (trimU s).data.toList ∨ s.data.toList = 95 :: (trimU s).data.toList := by
    unfold trimU Lib.trimPrefix Lib.hasPrefix
    cases h : s.data.toList with
    | nil => left; simp
    | cons a t =>
      by_cases ha : a = 95
      · subst ha; right; simp
      · left
        have : (95 == a) = false := by simpa using fun e => ha e.symm
        simp [List.isPrefixOf, this]
  unfold bts
  rcases hd with h | h
  · cases hl : s.data.toList with
    | nil => rw [← h, hl]; rfl
    | cons a t =>
      have ht : (trimU s).data.toList = a :: t := by rw [← h, hl]
      by_cases ha : a = 95
      · exfalso
        subst ha
        have : (trimU s).data.toList = t := by
          unfold trimU Lib.trimPrefix Lib.hasPrefix
          rw [hl]; simp
        rw [this] at ht
        have := congrArg List.length ht
        simp at this
      · rw [ht]
        simp only [List.map_cons]
        split
        · rename_i heq
          simp only [List.cons.injEq] at heq
          exact absurd (UInt8.toNat_inj.1 (by show _ = 95; omega)) ha
        · rfl
  · rw [h]; rfl
/-- A run behind a base: a low line ahead of it or not. -/
theorem run_trim {s : ByteArray} {D : Int → Bool} (h : runA D false (bts (trimU s)) = true) : runA D true (bts s) = true := by
  rw [trimU_bts] at h
  cases hl : bts s with
  | nil => rw [hl] at h; cases h
  | cons c t =>
    rw [hl] at h
    by_cases hc : c = 95
    · subst hc
      simp only [runA, if_true, Bool.true_and]
      exact h
    · have h : runA D false (c :: t) = true := by
        split at h
        · rename_i heq; simp only [List.cons.injEq] at heq; exact absurd heq.1 hc
        · exact h
      simp only [runA, if_neg hc] at h ⊢
      exact h
theorem run_trim_dg {s : ByteArray} {D : Int → Bool} (h : runA D false (bts (trimU s)) = true) : hasDg (bts s) = true := by
  have hg := runA_dg h
  rw [trimU_bts] at hg
  cases hl : bts s with
  | nil => rw [hl] at hg; cases hg
  | cons c t =>
    rw [hl] at hg
    by_cases hc : c = 95
    · subst hc
      unfold hasDg at hg ⊢
      have hg : t.any (fun x => x != 95) = true := hg
      simp [hg]
    · simp [hasDg, hc]
/-- A number's body: its parts, good but for digits that are none of the base. -/
structure Body (l : List Int) (P : NumP) : Prop where
  wf : P.Wf
  im : P.im = false
  chars : P.chars = l
  radix : (P.pt && (decide (P.pre = 111) || decide (P.pre = 98))) = false
  dg : (decide (P.pre = 48) || hasDg P.d1 || hasDg P.d2) = true
  ex : exOk P.pre P.pt P.ex = true
  sep : sepGood (sepT l)
theorem sepT_snoc {l : List Int} (h : sepGood (sepT l)) (hl : l ≠ []) : sepGood (sepT (l ++ [105])) := by
  obtain ⟨d, h1, h2⟩ := h
  have fin : ∀ hex a e, sepL hex e a = some d → sepGood (sepL hex e (a ++ [105])) := fun hex a e he => by
    refine ⟨46, ?_, by decide⟩
    rw [sepL_app, he]
    simp only [Option.bind_some, sepL]
    rw [if_neg (by decide), if_neg (by cases hex <;> decide), if_neg h2]
  match l, hl with
  | [], hl => exact absurd rfl hl
  | [c], _ =>
    by_cases hc : c = 48
    · subst hc
      exact ⟨46, by decide +kernel, by decide⟩
    · have e : sepT [c] = sepL false 46 [c] := by
        unfold sepT
        split
        · rename_i heq; simp at heq
        · rfl
      have e2 : sepT ([c] ++ [105]) = sepL false 46 ([c] ++ [105]) := by
        unfold sepT
        split
        · rename_i heq
          simp only [List.cons_append, List.nil_append, List.cons.injEq] at heq
          exact absurd heq.1 hc
        · rfl
      rw [e] at h1
      rw [e2]
      exact fin _ _ _ h1
  | c :: c2 :: t, _ =>
    by_cases hc : c = 48
    · subst hc
      simp only [sepT, List.cons_append] at h1 ⊢
      by_cases hp : preL c2 = true
      · rw [if_pos hp] at h1 ⊢
        exact fin _ _ _ h1
      · rw [if_neg hp] at h1 ⊢
        exact fin _ _ _ h1
    · have e : ∀ u, sepT (c :: u) = sepL false 46 (c :: u) := fun u => by
        unfold sepT
        split
        · rename_i heq
          simp only [List.cons.injEq] at heq
          exact absurd heq.1 hc
        · rfl
      rw [e] at h1
      rw [List.cons_append, e]
      exact fin _ _ _ h1
/-- The separators of a text that has no base ahead of it. -/
theorem sepT_plain {l : List Int} (h : ∀ c t, l = 48 :: c :: t → preL c = false) : sepT l = sepL false 46 l := by
  match l with
  | [] => rfl
  | [c] =>
    unfold sepT
    split
    · rename_i heq; simp at heq
    · rfl
  | c :: c2 :: t =>
    by_cases hc : c = 48
    · subst hc
      simp only [sepT]
      rw [if_neg (by rw [h c2 t rfl]; decide)]
    · unfold sepT
      split
      · rename_i heq
        simp only [List.cons.injEq] at heq
        exact absurd heq.1 hc
      · rfl
theorem preL_dec {c : Int} (h : decU c = true) : preL c = false := by
  have := decU_in h
  have hl := low_of (c := c) (by omega) (by omega)
  unfold preL
  simp
  omega
/-- Digits to ten that begin with one: a body. -/
theorem body_dec {l : List Int} (h : runA (memB decB) false l = true) (hin : ∀ x ∈ l, 0 ≤ x ∧ x < 256) (pt : Bool) (d2 : List Int) (ex : NumE) (hpt : pt = false → d2 = []) (hd2 : ∀ x ∈ d2, decU x = true) (hex : ExWf ex) (hok : exOk 0 pt ex = true)
    (hsep : sepGood ((sepL false 48 (ptChars pt ++ (d2 ++ exChars ex))))) : ∃ P, Body (l ++ (ptChars pt ++ (d2 ++ exChars ex))) P ∧ P.pt = pt ∧ P.ex = ex ∧ P.d2 = d2 ∧ (P.pre = 0 ∨ P.pre = 48) ∧ (P.pre = 0 → P.d1 = l) ∧ (P.pre = 48 → l = 48 :: P.d1) := by
  obtain ⟨c, t, hl, hc, hc95, ht⟩ := runA_true h
  have hcin := hin c (by rw [hl]; simp)
  have hcd := memB_dec hcin.1 hcin.2 hc
  have R := run_dec (hex := false) h hin
  have hs48 := R.sep 46 (fun h => by cases h)
  have hxe : ∀ e sg ds, ex = some (e, sg, ds) → decU e = false := fun e sg ds hx => by
    rw [hx] at hex
    obtain ⟨w, _⟩ := hex
    rcases w with rfl | rfl | rfl | rfl <;> decide
  have hsepT : sepGood (sepT (l ++ (ptChars pt ++ (d2 ++ exChars ex)))) := by
    rw [sepT_plain]
    · rw [sepL_app, hs48]; exact hsep
    · intro c' t' he
      rw [hl] at he
      cases t with
      | cons x t =>
        simp only [List.cons_append, List.cons.injEq] at he
        rw [← he.2.1]
        exact preL_dec (R.all x (by rw [hl]; simp))
      | nil =>
        have he : ptChars pt ++ (d2 ++ exChars ex) = c' :: t' := by
          simp only [List.cons_append, List.nil_append, List.cons.injEq] at he
          exact he.2
        cases pt with
        | true =>
          have : (46 : Int) = c' := by
            have he : (46 : Int) :: (d2 ++ exChars ex) = c' :: t' := he
            exact (List.cons.inj he).1
          rw [← this]; decide +kernel
        | false =>
          rw [hpt rfl] at he
          have he : exChars ex = c' :: t' := he
          cases ex with
          | none => cases he
          | some y =>
            obtain ⟨e, sg, ds⟩ := y
            have : e = c' := (List.cons.inj he).1
            rw [← this]
            obtain ⟨w, _⟩ := hex
            rcases w with rfl | rfl | rfl | rfl <;> decide +kernel
  by_cases h48 : c = 48
  · subst h48
    have hok' : exOk 48 pt ex = true := by
      cases ex with
      | none => simp [exOk]
      | some y =>
        obtain ⟨e, sg, ds⟩ := y
        simp only [exOk, Bool.and_eq_true, Bool.not_eq_true', decide_eq_false_iff_not, not_and, Decidable.not_not] at hok ⊢
        exact ⟨⟨fun _ _ => trivial, fun he => by have := hok.1.2 he; omega⟩, hok.2⟩
    have hRt : ∀ x ∈ t, decU x = true := fun x hx => R.all x (by rw [hl]; exact List.mem_cons_of_mem _ hx)
    refine ⟨⟨48, 0, t, pt, d2, ex, false⟩, ⟨⟨.inr (.inl rfl), hRt, hd2, hpt, hex, hxe⟩, rfl, ?_, ?_, by simp, hok', hsepT⟩, rfl, rfl, rfl, .inr rfl, (fun h => by cases h), fun _ => hl⟩
    · show [48] ++ (t ++ (ptChars pt ++ (d2 ++ (exChars ex ++ [])))) = _
      rw [hl, List.append_nil]; rfl
    · show (pt && (decide ((48 : Int) = 111) || decide ((48 : Int) = 98))) = false
      simp
  · refine ⟨⟨0, 0, l, pt, d2, ex, false⟩, ⟨⟨.inl ⟨rfl, c, t, hl, by omega, hcd.2⟩, R.all, hd2, hpt, hex, hxe⟩, rfl, ?_, ?_, ?_, hok, hsepT⟩, rfl, rfl, rfl, .inl rfl, fun _ => rfl, fun h => by cases h⟩
    · show [] ++ (l ++ (ptChars pt ++ (d2 ++ (exChars ex ++ [])))) = _
      rw [List.append_nil]; rfl
    · show (pt && (decide ((0 : Int) = 111) || decide ((0 : Int) = 98))) = false
      simp
    · show (decide ((0 : Int) = 48) || hasDg l || hasDg d2) = true
      rw [R.dg rfl]; simp
end Sc
end Go.Proofs.YtogkcphobhhbdaaDoor

/- Plain: integers and floating-point numbers of the specification, as a number's parts. -/
namespace Go.Proofs.YtogkcphobhhbdaaDoor
open Go Go.RowKit Go.Lib
namespace Sc
open Ev
set_option maxRecDepth 100000
theorem bts_cons {s : ByteArray} (h : 0 < s.size) : bts s = (((s.get! 0).toNat : Nat) : Int) :: bts (s.extract 1 s.size) := by
  have := bts_drop_cons h
  rw [List.drop_zero] at this
  rw [this, bts_extract _ _ _ (Nat.le_refl _), List.take_of_length_le (by rw [List.length_drop, bts_len]; omega)]
theorem bts_two {s : ByteArray} (h : 2 ≤ s.size) : bts s = (((s.get! 0).toNat : Nat) : Int) :: (((s.get! 1).toNat : Nat) : Int) :: bts (s.extract 2 s.size) := by
  have h0 := bts_drop_cons (s := s) (j := 0) (by omega)
  have h1 := bts_drop_cons (s := s) (j := 1) (by omega)
  rw [List.drop_zero] at h0
  rw [h0, h1, bts_extract _ _ _ (Nat.le_refl _), List.take_of_length_le (by rw [List.length_drop, bts_len]; omega)]
theorem bts_nil {s : ByteArray} : bts s = [] ↔ s.size = 0 := by rw [← List.length_eq_zero_iff, bts_len]
theorem intR_run {s : ByteArray} {base : Int} {hex : Bool} {D : ByteArray} {r : ByteArray} (h : runF (trimU r) D = true) (hr : ∀ {prev : Bool} {l : List Int}, runA (memB D) prev l = true → (∀ x ∈ l, 0 ≤ x ∧ x < 256) → RunOk base hex prev l) : RunOk base hex true (bts r) ∧ hasDg (bts r) = true := by
  rw [run_iff] at h
  exact ⟨hr (run_trim h) (bts_in r), run_trim_dg h⟩
theorem int_body {s : ByteArray} (h : isIntF s = true) : ∃ P, Body (bts s) P ∧ P.pt = false ∧ P.ex = none ∧ (P.base ≤ 10 → badDg (48 + P.base) P.d1 = false) := by
  unfold isIntF at h
  by_cases hc : s.size < 2 ∨ (s.get! 0).toNat ≠ 48
  · rw [if_pos hc, run_iff] at h
    obtain ⟨P, B, p1, p2, p3, p4, p5, p6⟩ := body_dec h (bts_in s) false [] none (fun _ => rfl) (fun x hx => absurd hx List.not_mem_nil) trivial rfl ⟨48, rfl, by decide⟩
    have R := run_dec (hex := false) h (bts_in s)
    have e : bts s ++ (ptChars false ++ ([] ++ exChars none)) = bts s := by show bts s ++ [] = _; rw [List.append_nil]
    rw [e] at B
    refine ⟨P, B, p1, p2, fun hb => ?_⟩
    rcases p4 with h0 | h48
    · have hbase : P.base = 10 := by unfold NumP.base; rw [h0]; decide
      rw [p5 h0, hbase]
      exact R.bad (by decide)
    · have hl := p6 h48
      have hs : s.size = 1 := by
        have hlen := bts_len s
        rw [hl] at hlen
        simp only [List.length_cons] at hlen
        rcases hc with hc | hc
        · omega
        · exfalso
          rw [bts_cons (by omega)] at hl
          have := (List.cons.inj hl).1
          omega
      have : P.d1 = [] := by
        have hlen := bts_len s
        rw [hl, hs] at hlen
        simp only [List.length_cons] at hlen
        exact List.eq_nil_of_length_eq_zero (by omega)
      rw [this]; rfl
  · rw [if_neg hc] at h
    have h2 : 2 ≤ s.size := by omega
    have h48 : (s.get! 0).toNat = 48 := by omega
    have hb2 := bts_two h2
    have hb1 := bts_cons (s := s) (by omega)
    rw [h48] at hb2 hb1
    have hcin : (((s.get! 1).toNat : Nat) : Int) ∈ bts s := by rw [hb2]; simp
    have hce : (bts (s.extract 1 s.size)).head? = some (((s.get! 1).toNat : Nat) : Int) := by rw [hb1] at hb2; rw [(List.cons.inj hb2).2]; rfl
    have pcEq : ∀ n : Nat, (s.get! 1).toNat = n → (((s.get! 1).toNat : Nat) : Int) = (n : Int) := fun n h => by rw [h]
    unfold intR at h
    -- the three bases that are told
    have withPre : ∀ (pre base : Int) (hex : Bool) (D : ByteArray), (∀ {prev : Bool} {l : List Int}, runA (memB D) prev l = true → (∀ x ∈ l, 0 ≤ x ∧ x < 256) → RunOk base hex prev l) → runF (trimU (s.extract 2 s.size)) D = true →
        (pre = 120 ∧ base = 16 ∧ hex = true ∧ ((s.get! 1).toNat = 120 ∨ (s.get! 1).toNat = 88)) ∨ (pre = 98 ∧ base = 2 ∧ hex = false ∧ ((s.get! 1).toNat = 98 ∨ (s.get! 1).toNat = 66)) ∨ (pre = 111 ∧ base = 8 ∧ hex = false ∧ ((s.get! 1).toNat = 111 ∨ (s.get! 1).toNat = 79)) →
        ∃ P, Body (bts s) P ∧ P.pt = false ∧ P.ex = none ∧ (P.base ≤ 10 → badDg (48 + P.base) P.d1 = false) := fun pre base hex D hD hrun hp => by
      obtain ⟨R, hg⟩ := intR_run (s := s) hrun hD
      have hsep := R.sep 48 (fun _ => rfl)
      have hlow := low_of (c := (((s.get! 1).toNat : Nat) : Int)) (by omega) (by have := (s.get! 1).toNat_lt; omega)
      have hpb : (⟨pre, (((s.get! 1).toNat : Nat) : Int), bts (s.extract 2 s.size), false, [], none, false⟩ : NumP).base = base := by
        unfold NumP.base
        rcases hp with ⟨rfl, rfl, _⟩ | ⟨rfl, rfl, _⟩ | ⟨rfl, rfl, _⟩ <;> rfl
      have hps : decide (lowerF (((s.get! 1).toNat : Nat) : Int) = 120) = hex ∧ preL (((s.get! 1).toNat : Nat) : Int) = true := by
        unfold preL
        rcases hp with ⟨_, _, rfl, h⟩ | ⟨_, _, rfl, h⟩ | ⟨_, _, rfl, h⟩
        · have e := hlow.2.2.1.2 (by omega)
          simp [e]
        · have e := hlow.2.2.2.2.2 (by omega)
          simp [e]
        · have e := hlow.2.2.2.1.2 (by omega)
          simp [e]
      refine ⟨⟨pre, (((s.get! 1).toNat : Nat) : Int), bts (s.extract 2 s.size), false, [], none, false⟩, ⟨⟨?_, ?_, fun x hx => absurd hx List.not_mem_nil, fun _ => rfl, trivial, fun e sg ds h => by cases h⟩, rfl, ?_, rfl, ?_, ?_, ?_⟩, rfl, rfl, ?_⟩
      · show (pre = 0 ∧ _) ∨ pre = 48 ∨ (pre = 120 ∧ ((((s.get! 1).toNat : Nat) : Int) = 120 ∨ (((s.get! 1).toNat : Nat) : Int) = 88)) ∨ (pre = 111 ∧ ((((s.get! 1).toNat : Nat) : Int) = 111 ∨ (((s.get! 1).toNat : Nat) : Int) = 79)) ∨ (pre = 98 ∧ ((((s.get! 1).toNat : Nat) : Int) = 98 ∨ (((s.get! 1).toNat : Nat) : Int) = 66))
        rcases hp with ⟨h1, _, _, h⟩ | ⟨h1, _, _, h⟩ | ⟨h1, _, _, h⟩
        · exact .inr (.inr (.inl ⟨h1, by omega⟩))
        · exact .inr (.inr (.inr (.inr ⟨h1, by omega⟩)))
        · exact .inr (.inr (.inr (.inl ⟨h1, by omega⟩)))
      · rw [hpb]; exact R.all
      · show (if pre = 0 then [] else if pre = 48 then [48] else [48, (((s.get! 1).toNat : Nat) : Int)]) ++ (bts (s.extract 2 s.size) ++ []) = _
        rw [hb2, List.append_nil]
        rcases hp with ⟨rfl, _⟩ | ⟨rfl, _⟩ | ⟨rfl, _⟩ <;> rfl
      · show (decide (pre = 48) || hasDg (bts (s.extract 2 s.size)) || hasDg []) = true
        rw [hg]; simp
      · show (!(decide (pre = 120) && false)) = true
        simp
      · rw [hb2]
        show sepGood (sepT (48 :: _ :: _))
        simp only [sepT]
        rw [if_pos hps.2, hps.1, hsep]
        exact ⟨48, rfl, by decide⟩
      · rw [hpb]; exact R.bad
    by_cases x1 : (s.get! 1).toNat = 120 ∨ (s.get! 1).toNat = 88
    · rw [if_pos x1] at h
      exact withPre 120 16 true hexB run_hex h (.inl ⟨rfl, rfl, rfl, x1⟩)
    · rw [if_neg x1] at h
      by_cases x2 : (s.get! 1).toNat = 98 ∨ (s.get! 1).toNat = 66
      · rw [if_pos x2] at h
        exact withPre 98 2 false binB run_bin h (.inr (.inl ⟨rfl, rfl, rfl, x2⟩))
      · rw [if_neg x2] at h
        by_cases x3 : (s.get! 1).toNat = 111 ∨ (s.get! 1).toNat = 79
        · rw [if_pos x3] at h
          exact withPre 111 8 false octB run_oct h (.inr (.inr ⟨rfl, rfl, rfl, x3⟩))
        · rw [if_neg x3] at h
          obtain ⟨R, hg⟩ := intR_run (s := s) h run_oct
          have hsep := R.sep 48 (fun _ => rfl)
          refine ⟨⟨48, 0, bts (s.extract 1 s.size), false, [], none, false⟩, ⟨⟨.inr (.inl rfl), R.all, fun x hx => absurd hx List.not_mem_nil, fun _ => rfl, trivial, fun e sg ds h => by cases h⟩, rfl, ?_, rfl, by simp, rfl, ?_⟩, rfl, rfl, fun hb => R.bad hb⟩
          · show [48] ++ (bts (s.extract 1 s.size) ++ []) = _
            rw [List.append_nil, hb1]; rfl
          · rw [hb1]
            show sepGood (sepT (48 :: bts (s.extract 1 s.size)))
            rw [sepT_plain]
            · show sepGood (sepL false 48 (bts (s.extract 1 s.size)))
              rw [hsep]
              exact ⟨48, rfl, by decide⟩
            · intro c t he
              have he : bts (s.extract 1 s.size) = c :: t := (List.cons.inj he).2
              exact preL_dec (R.all c (by rw [he]; simp))
/-! Floating-point numbers. -/
/-- exponentOk. -/
theorem exp_body {e : ByteArray} (h : expOkF e = true) : ∃ sg ds, bts e = sg ++ ds ∧ (sg = [] ∨ sg = [43] ∨ sg = [45]) ∧ (∀ x ∈ ds, decU x = true) ∧ hasDg ds = true ∧ (∀ hex d, d ≠ 95 → sepL hex d (sg ++ ds) = some 48) := by
  have sgn : ∀ (hex : Bool) (c d : Int), c = 43 ∨ c = 45 → d ≠ 95 → ∀ l, sepL hex d (c :: l) = sepL hex 46 l := fun hex c d hc hd l => by
    rcases hc with rfl | rfl <;> (simp only [sepL]; rw [if_neg (by decide), if_neg (by cases hex <;> decide), if_neg hd])
  unfold expOkF at h
  by_cases hc : e.size ≠ 0 ∧ ((e.get! 0).toNat = 43 ∨ (e.get! 0).toNat = 45)
  · rw [if_pos hc, run_iff] at h
    have R := fun hex => run_dec (hex := hex) h (bts_in _)
    have hb := bts_cons (s := e) (by omega)
    refine ⟨[(((e.get! 0).toNat : Nat) : Int)], bts (e.extract 1 e.size), hb, ?_, (R false).all, (R false).dg rfl, fun hex d hd => ?_⟩
    · rcases hc.2 with h | h
      · exact .inr (.inl (by rw [h]; rfl))
      · exact .inr (.inr (by rw [h]; rfl))
    · show sepL hex d ((((e.get! 0).toNat : Nat) : Int) :: bts (e.extract 1 e.size)) = _
      rw [sgn hex _ d (by omega) hd, (R hex).sep 46 (fun h => by cases h)]
  · rw [if_neg hc, run_iff] at h
    have R := fun hex => run_dec (hex := hex) h (bts_in _)
    exact ⟨[], bts e, rfl, .inl rfl, (R false).all, (R false).dg rfl, fun hex d hd => (R hex).sep d (fun h => by cases h)⟩
/-- A number that begins with a point: its digits, its exponent. -/
structure PtBody (l : List Int) (d2 : List Int) (ex : NumE) : Prop where
  chars : l = 46 :: (d2 ++ exChars ex)
  al : ∀ x ∈ d2, decU x = true
  dg : hasDg d2 = true
  fst : ∃ c t, d2 = c :: t ∧ 48 ≤ c ∧ c ≤ 57
  wf : ExWf ex
  ex : exOk 0 true ex = true
  sep : sepGood (sepT l)
theorem memB_two {x : Int} {a b : UInt8} (h0 : 0 ≤ x) (h1 : x < 256) (h : memB ⟨#[a, b]⟩ x = true) : x = (a.toNat : Nat) ∨ x = (b.toNat : Nat) := by
  unfold memB at h
  rw [inByte_iff] at h
  have h : UInt8.ofNat x.toNat ∈ [a, b] := h
  have e : (UInt8.ofNat x.toNat).toNat = x.toNat := by rw [UInt8.toNat_ofNat']; omega
  simp only [List.mem_cons, List.not_mem_nil, or_false] at h
  rcases h with h | h
  · left; have := congrArg UInt8.toNat h; omega
  · right; have := congrArg UInt8.toNat h; omega
theorem memB_one {x : Int} {a : UInt8} (h0 : 0 ≤ x) (h1 : x < 256) (h : memB ⟨#[a]⟩ x = true) : x = (a.toNat : Nat) := by
  unfold memB at h
  rw [inByte_iff] at h
  have h : UInt8.ofNat x.toNat ∈ [a] := h
  have e : (UInt8.ofNat x.toNat).toNat = x.toNat := by rw [UInt8.toNat_ofNat']; omega
  simp only [List.mem_singleton] at h
  have := congrArg UInt8.toNat h; omega
theorem emp_nil {s : ByteArray} : emp s = true ↔ bts s = [] := by rw [emp_iff, decide_eq_true_iff, bts_nil]
/-- The parts of a mantissa: before the point, behind it. -/
theorem cut_dot (m : ByteArray) : ∃ wh re pt, cutF m dotB = (wh, re, pt) ∧ bts m = bts wh ++ (ptChars pt ++ bts re) ∧ (pt = false → bts re = []) := by
  obtain ⟨h1, c, h2, h3, h4⟩ | ⟨h1, h2, h3, h4⟩ := cutF_ok m dotB
  · have hcin := bts_in m c (by rw [h2]; simp)
    have hc := memB_one (a := 46) hcin.1 hcin.2 h3
    refine ⟨(cutF m dotB).1, (cutF m dotB).2.1, true, by rw [← h1], ?_, fun h => by cases h⟩
    rw [hc] at h2
    exact h2
  · refine ⟨(cutF m dotB).1, (cutF m dotB).2.1, false, by rw [← h1], ?_, fun _ => by rw [h3]; rfl⟩
    rw [h2, h3]
    show bts m = bts m ++ []
    rw [List.append_nil]
theorem sep_dot {hex : Bool} {d : Int} (hd : d ≠ 95) (l : List Int) : sepL hex d (46 :: l) = sepL hex 46 l := by
  simp only [sepL]
  rw [if_neg (by decide), if_neg (by cases hex <;> decide), if_neg hd]
theorem sep_exp {hex : Bool} {d e : Int} (hd : d ≠ 95) (he : isDecimalF e = false ∧ e ≠ 95 ∧ (hex = true → isHexF e = false)) (l : List Int) : sepL hex d (e :: l) = sepL hex 46 l := by
  simp only [sepL]
  rw [if_neg he.2.1, if_neg ?_, if_neg hd]
  rintro (h | ⟨h1, h2⟩)
  · rw [he.1] at h; cases h
  · rw [he.2.2 h1] at h2; cases h2
theorem hexP_base (c : Int) (d1 : List Int) (pt : Bool) (d2 : List Int) (ex : NumE) (im : Bool) : (NumP.mk 120 c d1 pt d2 ex im).base = 16 := by
  unfold NumP.base
  rfl
theorem exp_hex {e : Int} (he : e = 112 ∨ e = 80) : isDecimalF e = false ∧ e ≠ 95 ∧ isHexF e = false ∧ hexU e = false := by
  rcases he with rfl | rfl <;> decide +kernel
theorem exp_dec {e : Int} (he : e = 101 ∨ e = 69) : isDecimalF e = false ∧ e ≠ 95 := by
  rcases he with rfl | rfl <;> decide +kernel
theorem hexFl_body {s : ByteArray} (hp : isHexP s = true) (h : hexFl (cutF (s.extract 2 s.size) pP) (cutF (cutF (s.extract 2 s.size) pP).1 dotB) = true) : ∃ P, Body (bts s) P ∧ P.ex.isSome = true := by
  obtain ⟨c, hs2, hc, hcc⟩ : ∃ c, bts s = 48 :: c :: bts (s.extract 2 s.size) ∧ (c = 120 ∨ c = 88) ∧ 2 ≤ s.size := by
    have key : ∀ b : UInt8, Lib.hasPrefix s.data.toList [48, b] = true → bts s = 48 :: ((b.toNat : Nat) : Int) :: bts (s.extract 2 s.size) ∧ 2 ≤ s.size := fun b hb => by
      unfold Lib.hasPrefix at hb
      obtain ⟨t, ht⟩ := List.isPrefixOf_iff_prefix.1 hb
      have hl : s.data.toList.length = s.size := size_toList s
      have h2 : 2 ≤ s.size := by rw [← hl, ← ht]; simp
      have e := bts_two h2
      have e2 : bts s = 48 :: ((b.toNat : Nat) : Int) :: t.map (fun b => ((b.toNat : Nat) : Int)) := by
        unfold bts; rw [← ht]; rfl
      refine ⟨?_, h2⟩
      rw [e] at e2
      rw [e]
      obtain ⟨z1, z2⟩ := List.cons.inj e2
      obtain ⟨z3, _⟩ := List.cons.inj z2
      rw [z1, z3]
    unfold isHexP at hp
    rw [Bool.or_eq_true] at hp
    rcases hp with hp | hp
    · exact ⟨120, (key 120 hp).1, .inl rfl, (key 120 hp).2⟩
    · exact ⟨88, (key 88 hp).1, .inr rfl, (key 88 hp).2⟩
  generalize s.extract 2 s.size = r at *
  obtain ⟨wh, re, pt, d1, d2, d3⟩ := cut_dot (cutF r pP).1
  rw [d1] at h
  obtain ⟨h1, e, h2, h3, h4⟩ | ⟨h1, h2, h3, h4⟩ := cutF_ok r pP
  · unfold hexFl at h
    rw [h1] at h
    simp only [Bool.not_true, Bool.false_or] at h
    cases hx : expOkF (cutF r pP).2.1 with
    | false => rw [hx] at h; simp at h
    | true =>
      rw [hx] at h
      simp only [Bool.not_true, Bool.false_or] at h
      obtain ⟨sg, ds, x1, x2, x3, x4, x5⟩ := exp_body hx
      have hein := bts_in r e (by rw [h2]; simp)
      have he := memB_two (a := 112) (b := 80) hein.1 hein.2 h3
      have he : e = 112 ∨ e = 80 := he
      have hne : ¬ (emp wh && emp re) = true := fun hh => by rw [if_pos hh] at h; cases h
      rw [if_neg hne, Bool.and_eq_true, Bool.or_eq_true, Bool.or_eq_true, Bool.and_eq_true] at h
      obtain ⟨g1, g2⟩ := h
      have hclow := low_of (c := c) (by omega) (by omega)
      have elow := low_of (c := e) (by omega) (by omega)
      have W : (∀ x ∈ bts wh, digU 16 x = true) ∧ sepL true 48 (bts wh) = some 48 ∧ (hasDg (bts wh) = true ∨ (bts wh = [] ∧ pt = true)) := by
        rcases g1 with g1 | ⟨g1, g3⟩
        · obtain ⟨R, hg⟩ := intR_run (s := wh) g1 run_hex
          exact ⟨R.all, R.sep 48 (fun _ => rfl), .inl hg⟩
        · have := emp_nil.1 g1
          rw [this]
          exact ⟨fun x hx => absurd hx List.not_mem_nil, rfl, .inr ⟨rfl, g3⟩⟩
      have V : (∀ x ∈ bts re, digU 16 x = true) ∧ (∃ d, d ≠ 95 ∧ sepL true 46 (bts re) = some d) ∧ (hasDg (bts re) = true ∨ bts re = []) := by
        rcases g2 with g2 | g2
        · have := emp_nil.1 g2
          rw [this]
          exact ⟨fun x hx => absurd hx List.not_mem_nil, ⟨46, by decide, rfl⟩, .inr rfl⟩
        · rw [run_iff] at g2
          have R := run_hex g2 (bts_in _)
          exact ⟨R.all, ⟨48, by decide, R.sep 46 (fun h => by cases h)⟩, .inl (R.dg rfl)⟩
      have dg : (hasDg (bts wh) || hasDg (bts re)) = true := by
        rcases W.2.2 with h | ⟨h, _⟩
        · rw [h]; rfl
        · rcases V.2.2 with h' | h'
          · rw [h']; simp
          · exact absurd (by rw [Bool.and_eq_true]; exact ⟨emp_nil.2 h, emp_nil.2 h'⟩) hne
      refine ⟨⟨120, c, bts wh, pt, bts re, some (e, sg, ds), false⟩, ⟨⟨.inr (.inr (.inl ⟨rfl, hc⟩)), ?_, ?_, d3, ⟨.inr (.inr he), x2, x3⟩, fun e' sg' ds' hh => ?_⟩, rfl, ?_, ?_, ?_, ?_, ?_⟩, rfl⟩
      · rw [hexP_base]; exact W.1
      · rw [hexP_base]; exact V.1
      · simp only [Option.some.injEq, Prod.mk.injEq] at hh
        rw [← hh.1, hexP_base]
        exact (exp_hex he).2.2.2
      · show [48, c] ++ (bts wh ++ (ptChars pt ++ (bts re ++ (e :: (sg ++ ds) ++ [])))) = _
        rw [hs2, h2, d2, x1, List.append_nil]
        simp
      · show (pt && (decide ((120 : Int) = 111) || decide ((120 : Int) = 98))) = false
        simp
      · show (decide ((120 : Int) = 48) || hasDg (bts wh) || hasDg (bts re)) = true
        rw [show decide ((120 : Int) = 48) = false from rfl, Bool.false_or]; exact dg
      · simp only [exOk, Bool.and_eq_true, Bool.not_eq_true', decide_eq_false_iff_not]
        refine ⟨⟨fun h => by omega, fun h => h.2 rfl⟩, x4⟩
      · rw [hs2, h2, d2, x1]
        simp only [sepT]
        have hpre : preL c = true := by unfold preL; simp [hclow.2.2.1.2 hc]
        have hx : decide (lowerF c = 120) = true := by simpa using hclow.2.2.1.2 hc
        rw [if_pos hpre, hx, List.append_assoc, sepL_app, W.2.1]
        simp only [Option.bind_some]
        have hee : isDecimalF e = false ∧ e ≠ 95 ∧ (true = true → isHexF e = false) := ⟨(exp_hex he).1, (exp_hex he).2.1, fun _ => (exp_hex he).2.2.1⟩
        refine ⟨48, ?_, by decide⟩
        cases pt with
        | true =>
          show sepL true 48 (46 :: (bts re) ++ (e :: (sg ++ ds))) = some 48
          obtain ⟨d, k1, k2⟩ := V.2.1
          rw [List.cons_append, sep_dot (by decide), sepL_app, k2]
          simp only [Option.bind_some]
          rw [sep_exp k1 hee, x5 true 46 (by decide)]
        | false =>
          rw [d3 rfl]
          show sepL true 48 (e :: (sg ++ ds)) = some 48
          rw [sep_exp (by decide) hee, x5 true 46 (by decide)]
  · unfold hexFl at h
    rw [h1] at h
    simp at h
theorem decFl_body {s : ByteArray} (h : decFl (cutF s eE) (cutF (cutF s eE).1 dotB) = true) : (∃ P, Body (bts s) P ∧ (P.pt = true ∨ P.ex.isSome = true)) ∨ ∃ d2 ex, PtBody (bts s) d2 ex := by
  obtain ⟨wh, re, pt, d1, d2, d3⟩ := cut_dot (cutF s eE).1
  rw [d1] at h
  -- the exponent, or none
  have EX : ∃ ex : NumE, bts s = bts (cutF s eE).1 ++ exChars ex ∧ ExWf ex ∧ (∀ pt, exOk 0 pt ex = true) ∧ (∀ d, d ≠ 95 → sepGood (sepL false d (exChars ex))) ∧ (pt = true ∨ ex.isSome = true) := by
    obtain ⟨h1, e, h2, h3, h4⟩ | ⟨h1, h2, h3, h4⟩ := cutF_ok s eE
    · unfold decFl at h
      rw [h1] at h
      cases hx : expOkF (cutF s eE).2.1 with
      | false => rw [hx] at h; simp at h
      | true =>
        obtain ⟨sg, ds, x1, x2, x3, x4, x5⟩ := exp_body hx
        have hein := bts_in s e (by rw [h2]; simp)
        have he : e = 101 ∨ e = 69 := memB_two (a := 101) (b := 69) hein.1 hein.2 h3
        have elow := low_of (c := e) (by omega) (by omega)
        have hee : isDecimalF e = false ∧ e ≠ 95 ∧ (false = true → isHexF e = false) := ⟨(exp_dec he).1, (exp_dec he).2, fun h => by cases h⟩
        refine ⟨some (e, sg, ds), ?_, ⟨by omega, x2, x3⟩, fun pt => ?_, fun d hd => ⟨48, ?_, by decide⟩, .inr rfl⟩
        · show bts s = _ ++ e :: (sg ++ ds)
          rw [← x1]; exact h2
        · simp only [exOk, Bool.and_eq_true, Bool.not_eq_true', decide_eq_false_iff_not]
          exact ⟨⟨fun h => h.2.1 rfl, fun h => by omega⟩, x4⟩
        · show sepL false d (e :: (sg ++ ds)) = some 48
          rw [sep_exp hd hee, x5 false 46 (by decide)]
    · refine ⟨none, ?_, trivial, fun pt => by simp [exOk], fun d hd => ⟨d, rfl, hd⟩, .inl ?_⟩
      · show bts s = bts (cutF s eE).1 ++ []
        rw [h2, List.append_nil]
      · unfold decFl at h
        rw [h1] at h
        cases pt with
        | true => rfl
        | false => simp at h
  obtain ⟨ex, x1, x2, x3, x4, x5⟩ := EX
  have hne : ¬ (emp wh && emp re) = true ∧ (emp wh = true ∨ runF wh decB = true) ∧ (emp re = true ∨ runF re decB = true) := by
    unfold decFl at h
    split at h
    · cases h
    · rename_i hh
      simp only [Bool.or_eq_true, not_or] at hh
      rw [Bool.and_eq_true, Bool.or_eq_true, Bool.or_eq_true] at h
      exact ⟨hh.2, h.1, h.2⟩
  obtain ⟨n1, n2, n3⟩ := hne
  have V : (∀ x ∈ bts re, decU x = true) ∧ (∃ d, d ≠ 95 ∧ sepL false 46 (bts re) = some d) ∧ (bts re = [] ∨ (hasDg (bts re) = true ∧ ∃ c t, bts re = c :: t ∧ 48 ≤ c ∧ c ≤ 57)) := by
    rcases n3 with g2 | g2
    · have := emp_nil.1 g2
      rw [this]
      exact ⟨fun x hx => absurd hx List.not_mem_nil, ⟨46, by decide, rfl⟩, .inl rfl⟩
    · rw [run_iff] at g2
      have R := run_dec (hex := false) g2 (bts_in _)
      obtain ⟨c, t, z1, z2, z3, z4⟩ := runA_true g2
      have hcin := bts_in re c (by rw [z1]; simp)
      exact ⟨R.all, ⟨48, by decide, R.sep 46 (fun h => by cases h)⟩, .inr ⟨R.dg rfl, c, t, z1, (memB_dec hcin.1 hcin.2 z2)⟩⟩
  obtain ⟨v1, ⟨d, v2, v3⟩, v4⟩ := V
  by_cases hw : emp wh = true
  · right
    have hwn := emp_nil.1 hw
    have hre : ¬ bts re = [] := fun e => n1 (by rw [Bool.and_eq_true]; exact ⟨hw, emp_nil.2 e⟩)
    have hpt : pt = true := by
      cases pt with
      | true => rfl
      | false => exact absurd (d3 rfl) hre
    obtain ⟨w1, w2⟩ := v4.resolve_left hre
    have hl : bts s = 46 :: (bts re ++ exChars ex) := by
      rw [x1, d2, hwn, hpt]; rfl
    refine ⟨bts re, ex, hl, v1, w1, w2, x2, x3 true, ?_⟩
    rw [hl, sepT_plain (fun c t he => by have := (List.cons.inj he).1; omega), sep_dot (by decide), sepL_app, v3]
    exact x4 d v2
  · left
    have hrun : runF wh decB = true := n2.resolve_left hw
    rw [run_iff] at hrun
    obtain ⟨P, B, p1, p2, p3, p4, p5, p6⟩ := body_dec hrun (bts_in wh) pt (bts re) ex d3 v1 x2 (x3 pt) (by
      cases pt with
      | true =>
        show sepGood (sepL false 48 (46 :: (bts re ++ exChars ex)))
        rw [sep_dot (by decide), sepL_app, v3]
        exact x4 d v2
      | false =>
        rw [d3 rfl]
        exact x4 48 (by decide))
    refine ⟨P, ?_, by rw [p1, p2]; exact x5⟩
    rw [x1, d2]
    simpa [List.append_assoc] using B
end Sc
end Go.Proofs.YtogkcphobhhbdaaDoor

/- Plain: the law of numbers. -/
namespace Go.Proofs.YtogkcphobhhbdaaDoor
open Go Go.RowKit Go.Lib
namespace Sc
open Ev
set_option maxRecDepth 100000
theorem digU_in {b : Int} {x : Int} (h0 : 0 ≤ x) (h1 : x ≤ 1114111) (h : digU b x = true) : 47 < x ∧ x < 128 := by
  unfold digU at h
  split at h
  · have := decU_in h; omega
  · have := hexU_in h0 h1 h; omega
theorem exChars_in {ex : NumE} (h : ExWf ex) : ∀ x ∈ exChars ex, 0 < x ∧ x < 128 := by
  cases ex with
  | none => exact fun x hx => absurd hx List.not_mem_nil
  | some t =>
    obtain ⟨e, sg, ds⟩ := t
    obtain ⟨w1, w2, w3⟩ := h
    intro x hx
    have hx : x ∈ e :: (sg ++ ds) := hx
    rcases List.mem_cons.1 hx with rfl | hx
    · omega
    · rcases List.mem_append.1 hx with hx | hx
      · rcases w2 with rfl | rfl | rfl
        · cases hx
        · simp only [List.mem_singleton] at hx; omega
        · simp only [List.mem_singleton] at hx; omega
      · have := decU_in (w3 x hx); omega
theorem tail_in {base : Int} {pt im : Bool} {d2 : List Int} {ex : NumE} (h2 : ∀ x ∈ d2, digU base x = true) (hx : ExWf ex) (hin : ∀ x ∈ d2, 0 ≤ x ∧ x ≤ 1114111) : ∀ x ∈ ptChars pt ++ (d2 ++ (exChars ex ++ imChars im)), 0 < x ∧ x < 128 := by
  intro x hx'
  rcases List.mem_append.1 hx' with hx' | hx'
  · cases pt with
    | true => have hx' : x ∈ [(46 : Int)] := hx'; simp only [List.mem_singleton] at hx'; omega
    | false => exact absurd hx' List.not_mem_nil
  · rcases List.mem_append.1 hx' with hx' | hx'
    · have := digU_in (hin x hx').1 (hin x hx').2 (h2 x hx'); omega
    · rcases List.mem_append.1 hx' with hx' | hx'
      · exact exChars_in hx x hx'
      · cases im with
        | true => have hx' : x ∈ [(105 : Int)] := hx'; simp only [List.mem_singleton] at hx'; omega
        | false => exact absurd hx' List.not_mem_nil
theorem NumP.Wf.ascii {P : NumP} (h : P.Wf) (hin : ∀ x ∈ P.chars, 0 ≤ x ∧ x < 256) : ∀ x ∈ P.chars, 0 < x ∧ x < 128 := by
  intro x hx
  unfold NumP.chars at hx hin
  rcases List.mem_append.1 hx with hx | hx
  · unfold NumP.head at hx
    rcases h.pre with ⟨h0, _⟩ | h0 | ⟨h0, hp⟩ | ⟨h0, hp⟩ | ⟨h0, hp⟩
    · rw [if_pos h0] at hx; cases hx
    · rw [if_neg (by omega), if_pos h0] at hx; simp only [List.mem_singleton] at hx; omega
    all_goals
      rw [if_neg (by omega), if_neg (by omega)] at hx
      simp only [List.mem_cons, List.not_mem_nil, or_false] at hx
      omega
  · rcases List.mem_append.1 hx with hx | hx
    · have hi := hin x (by simp [hx])
      have := digU_in hi.1 (by omega) (h.d1 x hx); omega
    · exact tail_in h.d2 h.ex (fun y hy => by
        have := hin y (by unfold NumP.tail; simp [hy])
        omega) x hx
theorem byt_sub {T s : ByteArray} {q : Nat} (h : Sub T q s) : Byt T q (bts s) := by
  have hl := h.le
  refine ⟨by rw [bts_len]; exact hl, fun j x hj => ?_⟩
  have hlt : j < s.size := by have := (List.getElem?_eq_some_iff.1 hj).1; rw [bts_len] at this; exact this
  rw [bts_get hlt] at hj
  rw [h.get j hlt]
  exact Option.some.inj hj
theorem cl_byt {T : ByteArray} : ∀ {l : List Int} {k : Nat}, Byt T k l → (∀ x ∈ l, 0 < x ∧ x < 128) → Cl T k l (k + l.length)
  | [], k, _, _ => .nil
  | x :: l, k, h, ha => by
    have hx := ha x (by simp)
    have := cl_byt h.tail (fun y hy => ha y (List.mem_cons_of_mem _ hy))
    rw [List.length_cons, show k + (l.length + 1) = k + 1 + l.length by omega]
    exact .cons (h.chAt hx.1 hx.2) this
theorem cl_sub {T s : ByteArray} {q : Nat} (h : Sub T q s) (ha : ∀ x ∈ bts s, 0 < x ∧ x < 128) : Cl T q (bts s) (q + s.size) := by
  have := cl_byt (byt_sub h) ha
  rw [bts_len] at this
  exact this
theorem sw_dig {src : ByteArray} {nl : Bool} {n : St} (h0 : 48 ≤ n.ch) (h1 : n.ch ≤ 57) : finG src nl ((swT src nl n).get fin0) = (numberF src false n, [.int .i64 (numS src false n).inv]) := by
  have : n.ch = 48 ∨ n.ch = 49 ∨ n.ch = 50 ∨ n.ch = 51 ∨ n.ch = 52 ∨ n.ch = 53 ∨ n.ch = 54 ∨ n.ch = 55 ∨ n.ch = 56 ∨ n.ch = 57 := by omega
  rcases this with h | h | h | h | h | h | h | h | h | h <;> simp [swT, Tree.get, swNum, h, finG]
theorem sw_pt {src : ByteArray} {nl : Bool} {n : St} (h : n.ch = 46) (hd : isDecimalF (nextch src n).ch = true) : finG src nl ((swT src nl n).get fin0) = (numberF src true (nextch src n), [.int .i64 (numS src true (nextch src n)).inv]) := by
  simp [swT, Tree.get, swNum, h, hd, finG]
/-- A pass at a number: what it comes to. -/
structure NumR (src : ByteArray) (n : St) (q q2 : Nat) (ok : Bool) (kind : Int) (s : St) : Prop where
  std : Std src q2 s
  bad : s.bad = !ok
  good : ok = true → s.notes = n.notes
  told : ok = false → n.notes.length < s.notes.length
  lit : s.lit = src.extract q q2
  kind : s.kind = kind
  tok : s.tok = 3
  nl : s.nlsemi = true
  mode : s.mode = n.mode
  lc : s.line = n.line ∧ s.col = n.col
theorem NumTo.res {src : ByteArray} {n : St} {q q2 : Nat} {ok : Bool} {kind : Int} {t : NumS} (h : NumTo src n q q2 ok kind t) : NumR src n q q2 ok kind (numRes t) :=
  ⟨h.std.same rfl rfl rfl rfl, by show (!t.ok) = _; rw [h.ok], fun hk => h.good (by rw [h.ok]; exact hk), fun hk => h.bad (by rw [h.ok]; exact hk), h.lit, h.kind, h.tok, h.nl, h.mode, h.lc⟩
theorem num_pass {src : ByteArray} {nl : Bool} {p q q2 : Nat} {cs : List Int} {st : St} {P : NumP} (hsz : src.size ≤ 2048) (hp0 : Pos0 src st) (hg : Go src p st) (hp : p ≤ src.size) (h : Cl src p cs q) (hb : ∀ x ∈ cs, cBlank nl x = true)
    (hw : P.Wf) (hc : Cl src q P.chars q2) (he : NumEnd src q2 P.ex P.im) : ∃ n s, (passes src nl st).1 = s ∧ Here src q st n ∧ NumR src n q q2 (P.ok (src.extract q q2)) P.kind s := by
  obtain ⟨c, t, hct, hc0, hc1⟩ : ∃ c t, P.chars = c :: t ∧ 48 ≤ c ∧ c ≤ 57 := by
    unfold NumP.chars NumP.head
    rcases hw.pre with ⟨h0, c, t, hd, g1, g2⟩ | h0 | ⟨h0, hp⟩ | ⟨h0, hp⟩ | ⟨h0, hp⟩
    · rw [if_pos h0, hd]; exact ⟨c, _, rfl, by omega, g2⟩
    all_goals (rw [h0]; exact ⟨48, _, rfl, by decide, by decide⟩)
  have hk : ∃ w, ChAt src q c w := by
    rw [hct] at hc
    cases hc with
    | cons k1 k2 => exact ⟨_, k1⟩
  obtain ⟨w, hk⟩ := hk
  have hblank : cBlank nl c = false := by
    unfold cBlank
    simp
    omega
  obtain ⟨n, hn, hoff, e⟩ := pass_off hsz hg hp h hb (.inl ⟨_, _, hk⟩) (fun r' w' hc' => by rw [(hc'.uniq hk).1]; exact hblank)
  have hch : n.ch = c := (hn.std.of hk).1
  have hlet : isLetterF n.ch = false := by
    rw [hch]
    have : c = 48 ∨ c = 49 ∨ c = 50 ∨ c = 51 ∨ c = 52 ∨ c = 53 ∨ c = 54 ∨ c = 55 ∨ c = 56 ∨ c = 57 := by omega
    rcases this with rfl | rfl | rfl | rfl | rfl | rfl | rfl | rfl | rfl | rfl <;> decide +kernel
  have R := num_run hw ⟨hn.std, hoff⟩ hn.b hc he
  refine ⟨n, numberF src false n, ?_, hn, R.res⟩
  rw [passes_step hp0 hsz, e, hd_sw hlet (by omega), sw_dig (by omega) (by omega)]
theorem num_pass_pt {src : ByteArray} {nl : Bool} {p q q2 : Nat} {cs : List Int} {st : St} {d2 : List Int} {ex : NumE} {im : Bool} (hsz : src.size ≤ 2048) (hp0 : Pos0 src st) (hg : Go src p st) (hp : p ≤ src.size) (h : Cl src p cs q) (hb : ∀ x ∈ cs, cBlank nl x = true)
    (hc : Cl src q (46 :: (d2 ++ (exChars ex ++ imChars im))) q2) (hd2 : ∀ x ∈ d2, decU x = true) (hf : ∃ c t, d2 = c :: t ∧ 48 ≤ c ∧ c ≤ 57) (hw : ExWf ex) (he : NumEnd src q2 ex im) :
    ∃ n s, (passes src nl st).1 = s ∧ Here src q st n ∧ NumR src n q q2 (hasDg d2 && exOk 0 true ex && !((hasSp d2 || exSp ex) && decide (0 ≤ invalidSepF (src.extract q q2)))) (numKind true ex im) s := by
  cases hc with
  | @cons _ w _ _ _ k1 k2 =>
  obtain ⟨_, rfl⟩ := k1.byte (by decide)
  have hblank : cBlank nl 46 = false := by cases nl <;> rfl
  obtain ⟨n, hn, hoff, e⟩ := pass_off hsz hg hp h hb (.inl ⟨_, _, k1⟩) (fun r' w' hc' => by rw [(hc'.uniq k1).1]; exact hblank)
  obtain ⟨hch, g1, g2⟩ := At1.next ⟨hn.std, hoff⟩ k1 (by decide) (k2.cln he.cl)
  obtain ⟨c, t, hd, hc0, hc1⟩ := hf
  have hch2 : (nextch src n).ch = c := by
    rw [hd] at k2
    cases k2 with
    | cons j1 j2 => exact (g1.std.of j1).1
  have R := num_run_pt (q := q) g1 (by rw [g2.on.b]; exact hn.b) (by omega) k2 hd2 hw he
  have R2 := R.res
  refine ⟨n, numberF src true (nextch src n), ?_, hn, ⟨R2.std, R2.bad, fun hk => (R2.good hk).trans g2.notes, fun hk => by rw [← g2.notes]; exact R2.told hk, R2.lit, R2.kind, R2.tok, R2.nl, R2.mode.trans (by rw [g2.keep]), R2.lc.1.trans (by rw [g2.keep]), R2.lc.2.trans (by rw [g2.keep])⟩⟩
  rw [passes_step hp0 hsz, e, hd_sw (by rw [hch]; decide +kernel) (by omega), sw_pt hch (by rw [hch2]; exact dec_of hc0 hc1)]
/-- At the end of the text no number goes on. -/
theorem numEnd_end (src : ByteArray) (ex : NumE) (im : Bool) : NumEnd src src.size ex im :=
  ⟨.inr rfl, fun r w h => by have := h.lt; omega, fun _ _ _ r w h => by have := h.lt; omega⟩
/-- A text that is one number. -/
theorem num_one {s : ByteArray} {n x : St} {k : Int} (hs : s.size ≤ 2048) (e : (nextF s (stI 0)).1 = x) (hn : Here s 0 (stI 0) n) (R : NumR s n 0 s.size true k x) (h0 : 0 ≤ k) (h9 : k ≤ 9) : LikeAll (Sc.toks s 0) (closedF [litW s k] (litW s k)) ∧ (last s 0).notes = [] := by
  have hlit : x.lit = s := by rw [R.lit]; exact ByteArray.extract_zero_size
  obtain ⟨s2, s3, t1, t2, t3, t4, t5⟩ := one_tok hs e R.std R.nl (by rw [R.tok]; decide) (by rw [R.good rfl]; exact hn.notes)
  have hO : One s x := ⟨⟨s2, s3, t1, t2, t3, t4⟩, t5⟩
  have hL := like_lit R.tok R.kind (by rw [R.bad]; rfl) h0 h9
  rw [hlit] at hL
  exact ⟨hO.like hL (ends_lit _ _), t5⟩
theorem kind_in (pt : Bool) (ex : NumE) (im : Bool) : 0 ≤ numKind pt ex im ∧ numKind pt ex im ≤ 2 := by
  unfold numKind
  split
  · decide
  · split <;> decide
theorem num_text {s : ByteArray} (hs : s.size ≤ 2048) {P : NumP} (hw : P.Wf) (hc : P.chars = bts s) (hok : P.ok s = true) : LikeAll (Sc.toks s 0) (closedF [litW s P.kind] (litW s P.kind)) ∧ (last s 0).notes = [] := by
  have hcl : Cl s 0 P.chars s.size := by
    have := cl_sub (sub_self s) (by rw [← hc]; exact hw.ascii (by rw [hc]; exact bts_in s))
    rw [Nat.zero_add, ← hc] at this
    exact this
  obtain ⟨n, x, g1, g2, g3⟩ := num_pass (nl := false) hs (stI_pos s 0) (stI_go s 0) (Nat.zero_le _) .nil (fun x hx => absurd hx List.not_mem_nil) hw hcl (numEnd_end s _ _)
  rw [ByteArray.extract_zero_size, hok] at g3
  have hk := kind_in P.pt P.ex P.im
  exact num_one hs (by rw [nextF_passes s (stI 0)]; exact g1) g2 g3 hk.1 (by show numKind _ _ _ ≤ 9; omega)
theorem pt_text {s : ByteArray} (hs : s.size ≤ 2048) {d2 : List Int} {ex : NumE} {im : Bool} (hc : bts s = 46 :: (d2 ++ (exChars ex ++ imChars im))) (hd2 : ∀ x ∈ d2, decU x = true) (hf : ∃ c t, d2 = c :: t ∧ 48 ≤ c ∧ c ≤ 57) (hw : ExWf ex)
    (hok : (hasDg d2 && exOk 0 true ex && !((hasSp d2 || exSp ex) && decide (0 ≤ invalidSepF s))) = true) : LikeAll (Sc.toks s 0) (closedF [litW s (numKind true ex im)] (litW s (numKind true ex im))) ∧ (last s 0).notes = [] := by
  have hasc : ∀ x ∈ bts s, 0 < x ∧ x < 128 := by
    rw [hc]
    intro x hx
    have := tail_in (base := 10) (pt := true) (im := im) (d2 := d2) (ex := ex) hd2 hw (fun y hy => by have := decU_in (hd2 y hy); omega) x hx
    exact this
  have hcl := cl_sub (sub_self s) hasc
  rw [Nat.zero_add, hc] at hcl
  obtain ⟨n, x, g1, g2, g3⟩ := num_pass_pt (nl := false) hs (stI_pos s 0) (stI_go s 0) (Nat.zero_le _) .nil (fun x hx => absurd hx List.not_mem_nil) hcl hd2 hf hw (numEnd_end s _ _)
  rw [ByteArray.extract_zero_size, hok] at g3
  have hk := kind_in true ex im
  exact num_one hs (by rw [nextF_passes s (stI 0)]; exact g1) g2 g3 hk.1 (by omega)
/-- Good separators. -/
theorem sep_neg {s : ByteArray} (hs : s.size ≤ 2048) (h : sepGood (sepT (bts s))) (b : Bool) : (b && decide (0 ≤ invalidSepF s)) = false := by
  have := (invalidSep_ok (s := s) (by omega)).1.2 h
  rw [decide_eq_false (by omega), Bool.and_false]
theorem Body.ok {s : ByteArray} {P : NumP} (B : Body (bts s) P) (hs : s.size ≤ 2048) (hbad : P.kind = 0 → P.base ≤ 10 → badDg (48 + P.base) P.d1 = false) : P.ok s = true := by
  unfold NumP.ok
  rw [B.radix, B.dg, B.ex, sep_neg hs B.sep]
  by_cases hk : P.kind = 0
  · by_cases hb : P.base ≤ 10
    · rw [hbad hk hb]; simp
    · rw [decide_eq_false hb]; simp
  · rw [decide_eq_false hk]; simp
/-- With an i behind it. -/
def NumP.imag (P : NumP) : NumP := { P with im := true }
theorem Body.imag {n s : ByteArray} {P : NumP} (B : Body (bts n) P) (hb : bts s = bts n ++ [105]) (hs : s.size ≤ 2048) : P.imag.Wf ∧ P.imag.chars = bts s ∧ P.imag.ok s = true ∧ P.imag.kind = 2 := by
  have hne : bts n ≠ [] := fun e => by
    have := B.sep
    have hd := B.dg
    have hc := B.chars
    rw [e] at hc
    unfold NumP.chars NumP.head at hc
    rcases B.wf.pre with ⟨h0, c, t, hdd, _⟩ | h0 | ⟨h0, _⟩ | ⟨h0, _⟩ | ⟨h0, _⟩
    · rw [if_pos h0, hdd] at hc; cases hc
    all_goals (rw [h0] at hc; cases hc)
  refine ⟨⟨B.wf.pre, B.wf.d1, B.wf.d2, B.wf.pt, B.wf.ex, B.wf.xe⟩, ?_, ?_, rfl⟩
  · have hc := B.chars
    unfold NumP.chars NumP.tail at hc ⊢
    rw [B.im] at hc
    rw [hb, ← hc]
    show P.head ++ (P.d1 ++ (ptChars P.pt ++ (P.d2 ++ (exChars P.ex ++ [105])))) = P.head ++ (P.d1 ++ (ptChars P.pt ++ (P.d2 ++ (exChars P.ex ++ [])))) ++ [105]
    simp only [List.append_assoc, List.append_nil]
  · unfold NumP.ok
    have hsep : sepGood (sepT (bts s)) := by rw [hb]; exact sepT_snoc B.sep hne
    rw [sep_neg hs hsep]
    show (!(P.pt && (decide (P.pre = 111) || decide (P.pre = 98))) && (decide (P.pre = 48) || hasDg P.d1 || hasDg P.d2) && exOk P.pre P.pt P.ex && !(decide ((2 : Int) = 0) && _) && !false) = true
    rw [B.radix, B.dg, B.ex]
    rfl
theorem float_law {s : ByteArray} (hs : s.size ≤ 2048) (h : isFloatF s = true) : (∃ P, Body (bts s) P ∧ P.kind = 1) ∨ ∃ d2 ex, PtBody (bts s) d2 ex := by
  have one : ∀ P : NumP, P.im = false → (P.pt = true ∨ P.ex.isSome = true) → P.kind = 1 := fun P h1 h2 => by
    unfold NumP.kind numKind
    rw [h1, if_neg (by simp), if_pos h2]
  unfold isFloatF at h
  split at h
  · rename_i hp
    obtain ⟨P, B, hx⟩ := hexFl_body hp h
    exact .inl ⟨P, B, one P B.im (.inr hx)⟩
  · rcases decFl_body h with ⟨P, B, hx⟩ | h
    · exact .inl ⟨P, B, one P B.im hx⟩
    · exact .inr h
theorem ptBody_ok {s : ByteArray} {d2 : List Int} {ex : NumE} (hs : s.size ≤ 2048) (h1 : hasDg d2 = true) (h2 : exOk 0 true ex = true) (h3 : sepGood (sepT (bts s))) : (hasDg d2 && exOk 0 true ex && !((hasSp d2 || exSp ex) && decide (0 ≤ invalidSepF s))) = true := by
  rw [h1, h2, sep_neg hs h3]; rfl
theorem number_law {s : ByteArray} (hs : s.size ≤ 2048) (h : 0 ≤ kindOfF s) : LikeAll (Sc.toks s 0) (closedF [litW s (kindOfF s)] (litW s (kindOfF s))) ∧ (last s 0).notes = [] := by
  have pre : ∀ P : NumP, P.pre = P.pre := fun _ => rfl
  unfold kindOfF at h ⊢
  by_cases h0 : s.size = 0
  · rw [if_pos h0] at h; exact absurd h (by decide)
  · rw [if_neg h0] at h ⊢
    by_cases h1 : isIntF s = true
    · rw [if_pos h1]
      obtain ⟨P, B, p1, p2, p3⟩ := int_body h1
      have hk : P.kind = 0 := by unfold NumP.kind numKind; rw [B.im, p1, p2]; rfl
      have := num_text hs B.wf B.chars (B.ok hs (fun _ => p3))
      rw [hk] at this
      exact this
    · rw [if_neg h1] at h ⊢
      by_cases h2 : isFloatF s = true
      · rw [if_pos h2]
        rcases float_law hs h2 with ⟨P, B, hk⟩ | ⟨d2, ex, B⟩
        · have := num_text hs B.wf B.chars (B.ok hs (fun e => by omega))
          rw [hk] at this
          exact this
        · have := pt_text (im := false) hs (by rw [B.chars]; show _ = 46 :: (d2 ++ (exChars ex ++ [])); rw [List.append_nil]) B.al B.fst B.wf (ptBody_ok hs B.dg B.ex B.sep)
          exact this
      · rw [if_neg h2] at h ⊢
        by_cases h3 : (s.get! (s.size - 1)).toNat = 105
        · rw [if_pos h3] at h ⊢
          by_cases h4 : s.size - 1 ≠ 0 ∧ (isIntF (s.extract 0 (s.size - 1)) = true ∨ isFloatF (s.extract 0 (s.size - 1)) = true ∨ runF (s.extract 0 (s.size - 1)) decB = true)
          · rw [if_pos h4]
            have hb : bts s = bts (s.extract 0 (s.size - 1)) ++ [105] := by
              rw [bts_extract _ _ _ (by omega), List.drop_zero, Nat.sub_zero]
              have hl : (bts s).length = (s.size - 1) + 1 := by rw [bts_len]; omega
              have hd := bts_drop_cons (s := s) (j := s.size - 1) (by omega)
              have hd2 : (bts s).drop (s.size - 1 + 1) = [] := List.drop_eq_nil_of_le (by rw [bts_len]; omega)
              rw [h3, hd2] at hd
              rw [show [(105 : Int)] = (bts s).drop (s.size - 1) from hd.symm, List.take_append_drop]
            have fin : ∀ P, Body (bts (s.extract 0 (s.size - 1))) P → LikeAll (Sc.toks s 0) (closedF [litW s 2] (litW s 2)) ∧ (last s 0).notes = [] := fun P B => by
              obtain ⟨k1, k2, k3, k4⟩ := B.imag hb hs
              have := num_text hs k1 k2 k3
              rw [k4] at this
              exact this
            have hs' : (s.extract 0 (s.size - 1)).size ≤ 2048 := by rw [extract_size _ _ _ (by omega)]; omega
            rcases h4.2 with h5 | h5 | h5
            · obtain ⟨P, B, _⟩ := int_body h5
              exact fin P B
            · rcases float_law hs' h5 with ⟨P, B, _⟩ | ⟨d2, ex, B⟩
              · exact fin P B
              · have hc : bts s = 46 :: (d2 ++ (exChars ex ++ imChars true)) := by
                  rw [hb, B.chars]
                  show 46 :: (d2 ++ exChars ex) ++ [105] = 46 :: (d2 ++ (exChars ex ++ [105]))
                  simp
                have hsep : sepGood (sepT (bts s)) := by rw [hb]; exact sepT_snoc B.sep (by rw [B.chars]; simp)
                exact pt_text (im := true) hs hc B.al B.fst B.wf (ptBody_ok hs B.dg B.ex hsep)
            · rw [run_iff] at h5
              obtain ⟨P, B, _⟩ := body_dec h5 (bts_in _) false [] none (fun _ => rfl) (fun x hx => absurd hx List.not_mem_nil) trivial rfl ⟨48, rfl, by decide⟩
              refine fin P ?_
              have e : bts (s.extract 0 (s.size - 1)) ++ (ptChars false ++ ([] ++ exChars none)) = bts (s.extract 0 (s.size - 1)) := by show _ ++ [] = _; rw [List.append_nil]
              rw [e] at B
              exact B
          · rw [if_neg h4] at h; exact absurd h (by decide)
        · rw [if_neg h3] at h; exact absurd h (by decide)
end Sc
end Go.Proofs.YtogkcphobhhbdaaDoor

/- spec.KindOf and FnNumber walked. -/
namespace Go.Proofs.YtogkcphobhhbdaaDoor
open Go Go.RowKit Go.Lib
namespace Sc
open Ev
set_option maxRecDepth 100000
set_option maxHeartbeats 6400000 in
theorem kindOf_walk (w : World) (s : ByteArray) (hs : s.size ≤ 100000) : Calls Tryd.prog 27 #[.string s] w fun e w' => e = .returned (.int .i64 (kindOfF s)) ∧ Below w.heap.size w w' := by
  have hE := emp_iff s
  unfold emp at hE
  by_cases h0 : s.size = 0
  · rw [decide_eq_true h0] at hE
    have hf : kindOfF s = -1 := if_pos h0
    rw [hf]
    go_enter Tryd.func27, Tryd.ntmps27
    go_wp2_with fail
    all_goals exact ⟨rfl, _, one_res (k := 2) (by kernel_rfl) rfl, rfl, Below.refl _ _⟩
  rw [decide_eq_false h0] at hE
  have hI := fun w => isInt_walk w s hs
  have hF := fun w => isFloat_walk w s hs
  have hf : kindOfF s = _ := if_neg h0
  rw [hf]
  clear hf
  cases hi : isIntF s with
  | true =>
    rw [hi] at hI
    rw [if_pos rfl]
    go_enter Tryd.func27, Tryd.ntmps27
    go_wp2_with (go_at_call 41; refine (hI _).mono ?_; rintro en w1 ⟨rfl, hB1⟩)
    all_goals exact ⟨rfl, _, one_res (k := 2) (by kernel_rfl) rfl, rfl, hB1⟩
  | false =>
    rw [hi] at hI
    rw [if_neg (by simp)]
    cases hfl : isFloatF s with
    | true =>
      rw [hfl] at hF
      rw [if_pos rfl]
      go_enter Tryd.func27, Tryd.ntmps27
      go_wp2_with (first
        | (go_at_call 42; refine (hF _).mono ?_; rintro en w2 ⟨rfl, hB2⟩)
        | (go_at_call 41; refine (hI _).mono ?_; rintro en w1 ⟨rfl, hB1⟩))
      all_goals exact ⟨rfl, _, one_res (k := 2) (by kernel_rfl) rfl, rfl, below_up hB1 hB2⟩
    | false =>
      rw [hfl] at hF
      rw [if_neg (by simp)]
      have k0 : 0 < s.size := by omega
      have k1 : (0 : Int) < (s.size : Int) := by omega
      have kw : IntKind.i64.wrap ((s.size : Int) - 1) = ((s.size - 1 : Nat) : Int) := by rw [show (s.size : Int) - 1 = ((s.size - 1 : Nat) : Int) by omega]; exact i64_small (by omega) (by omega)
      have k2 : (0 : Int) ≤ ((s.size - 1 : Nat) : Int) := by omega
      have k3 : ((s.size - 1 : Nat) : Int) < (s.size : Int) := by omega
      have k4 : s.size - 1 < s.size := by omega
      have k5 : ((s.size - 1 : Nat) : Int) ≤ (s.size : Int) := by omega
      rw [get_bang s (s.size - 1) k4]
      have hsz : (s.extract 0 (s.size - 1)).size = s.size - 1 := by rw [ByteArray.size_extract]; omega
      have hE2 := emp_iff (s.extract 0 (s.size - 1))
      unfold emp at hE2
      rw [hsz] at hE2
      have hI2 := fun w => isInt_walk w (s.extract 0 (s.size - 1)) (by omega)
      have hF2 := fun w => isFloat_walk w (s.extract 0 (s.size - 1)) (by omega)
      have hR2 := fun w => run_walk w (s.extract 0 (s.size - 1)) decB (by omega) (by decide)
      clear hsz
      generalize s.size - 1 = j at kw k2 k3 k4 k5 hE2 hI2 hF2 hR2 ⊢
      generalize isIntF (s.extract 0 j) = b1 at hI2 ⊢
      generalize isFloatF (s.extract 0 j) = b2 at hF2 ⊢
      generalize runF (s.extract 0 j) decB = b3 at hR2 ⊢
      unfold decB at hR2
      by_cases hc : s[j].toNat = 105
      · have e1 : (((s[j].toNat : Nat) : Int) == 105) = true := by simp [hc]
        rw [if_pos hc]
        by_cases hj : j = 0
        · rw [decide_eq_true hj] at hE2
          rw [if_neg (fun h => h.1 hj)]
          go_enter Tryd.func27, Tryd.ntmps27
          go_wp2_with (first
            | (go_at_call 42; refine (hF _).mono ?_; rintro en w2 ⟨rfl, hB2⟩)
            | (go_at_call 41; refine (hI _).mono ?_; rintro en w1 ⟨rfl, hB1⟩))
          all_goals exact ⟨rfl, _, one_res (k := 2) (by kernel_rfl) rfl, rfl, below_up hB1 hB2⟩
        · rw [decide_eq_false hj] at hE2
          cases b1 with
          | true =>
            rw [if_pos ⟨hj, .inl rfl⟩]
            go_enter Tryd.func27, Tryd.ntmps27
            go_wp2_with (first
              | (go_at_call 41; have hh := hB2; refine (hI2 _).mono ?_; rintro en w3 ⟨rfl, hB3⟩)
              | (go_at_call 42; refine (hF _).mono ?_; rintro en w2 ⟨rfl, hB2⟩)
              | (go_at_call 41; refine (hI _).mono ?_; rintro en w1 ⟨rfl, hB1⟩))
            all_goals exact ⟨rfl, _, one_res (k := 2) (by kernel_rfl) rfl, rfl, below_up (below_up hB1 hB2) hB3⟩
          | false =>
            cases b2 with
            | true =>
              rw [if_pos ⟨hj, .inr (.inl rfl)⟩]
              go_enter Tryd.func27, Tryd.ntmps27
              go_wp2_with (first
                | (go_at_call 42; have hh := hB3; refine (hF2 _).mono ?_; rintro en w4 ⟨rfl, hB4⟩)
                | (go_at_call 41; have hh := hB2; refine (hI2 _).mono ?_; rintro en w3 ⟨rfl, hB3⟩)
                | (go_at_call 42; refine (hF _).mono ?_; rintro en w2 ⟨rfl, hB2⟩)
                | (go_at_call 41; refine (hI _).mono ?_; rintro en w1 ⟨rfl, hB1⟩))
              all_goals exact ⟨rfl, _, one_res (k := 2) (by kernel_rfl) rfl, rfl, below_up (below_up (below_up hB1 hB2) hB3) hB4⟩
            | false =>
              cases b3 with
              | true =>
                rw [if_pos ⟨hj, .inr (.inr rfl)⟩]
                go_enter Tryd.func27, Tryd.ntmps27
                go_wp2_with (first
                  | (go_at_call 43; refine (hR2 _).mono ?_; rintro en w5 ⟨rfl, rfl⟩)
                  | (go_at_call 42; have hh := hB3; refine (hF2 _).mono ?_; rintro en w4 ⟨rfl, hB4⟩)
                  | (go_at_call 41; have hh := hB2; refine (hI2 _).mono ?_; rintro en w3 ⟨rfl, hB3⟩)
                  | (go_at_call 42; refine (hF _).mono ?_; rintro en w2 ⟨rfl, hB2⟩)
                  | (go_at_call 41; refine (hI _).mono ?_; rintro en w1 ⟨rfl, hB1⟩))
                all_goals exact ⟨rfl, _, one_res (k := 2) (by kernel_rfl) rfl, rfl, below_up (below_up (below_up hB1 hB2) hB3) hB4⟩
              | false =>
                rw [if_neg (fun h => by simp at h)]
                go_enter Tryd.func27, Tryd.ntmps27
                go_wp2_with (first
                  | (go_at_call 43; refine (hR2 _).mono ?_; rintro en w5 ⟨rfl, rfl⟩)
                  | (go_at_call 42; have hh := hB3; refine (hF2 _).mono ?_; rintro en w4 ⟨rfl, hB4⟩)
                  | (go_at_call 41; have hh := hB2; refine (hI2 _).mono ?_; rintro en w3 ⟨rfl, hB3⟩)
                  | (go_at_call 42; refine (hF _).mono ?_; rintro en w2 ⟨rfl, hB2⟩)
                  | (go_at_call 41; refine (hI _).mono ?_; rintro en w1 ⟨rfl, hB1⟩))
                all_goals exact ⟨rfl, _, one_res (k := 2) (by kernel_rfl) rfl, rfl, below_up (below_up (below_up hB1 hB2) hB3) hB4⟩
      · have e1 : (((s[j].toNat : Nat) : Int) == 105) = false := by simp; omega
        rw [if_neg hc]
        go_enter Tryd.func27, Tryd.ntmps27
        go_wp2_with (first
          | (go_at_call 42; refine (hF _).mono ?_; rintro en w2 ⟨rfl, hB2⟩)
          | (go_at_call 41; refine (hI _).mono ?_; rintro en w1 ⟨rfl, hB1⟩))
        all_goals exact ⟨rfl, _, one_res (k := 2) (by kernel_rfl) rfl, rfl, below_up hB1 hB2⟩
end Sc
end Go.Proofs.YtogkcphobhhbdaaDoor

/- Plain: imaginary numbers, and what is no number. -/
namespace Go.Proofs.YtogkcphobhhbdaaDoor
open Go Go.RowKit Go.Lib
namespace Sc
open Ev
set_option maxRecDepth 100000
/-- A number's digits ahead of others. -/
def decN : Nat → Nat → ByteArray → ByteArray
  | 0, _, d => d
  | f + 1, m, d => if 0 < m then decN f (m / 10) (⟨#[UInt8.ofNat (48 + m % 10)]⟩ ++ d) else d
theorem bts_one (b : UInt8) : bts ⟨#[b]⟩ = [((b.toNat : Nat) : Int)] := rfl
theorem decN_in : ∀ (f m : Nat) (d : ByteArray), (∀ x ∈ bts d, 48 ≤ x ∧ x ≤ 57) → (∀ x ∈ bts (decN f m d), 48 ≤ x ∧ x ≤ 57) ∧ (decN f m d).size ≤ d.size + f
  | 0, _, d, h => ⟨h, by show d.size ≤ d.size + 0; omega⟩
  | f + 1, m, d, h => by
    simp only [decN]
    split
    · have := decN_in f (m / 10) (⟨#[UInt8.ofNat (48 + m % 10)]⟩ ++ d) (fun x hx => by
        rw [bts_app, bts_one] at hx
        rcases List.mem_append.1 hx with hx | hx
        · simp only [List.mem_singleton] at hx
          rw [UInt8.toNat_ofNat'] at hx
          omega
        · exact h x hx)
      rw [app_size] at this
      have e : (⟨#[UInt8.ofNat (48 + m % 10)]⟩ : ByteArray).size = 1 := rfl
      exact ⟨this.1, by omega⟩
    · exact ⟨h, by omega⟩
theorem trimU_mem {s : ByteArray} {x : Int} (h : x ∈ bts s) (hx : x ≠ 95) : x ∈ bts (trimU s) := by
  rw [trimU_bts]
  split
  · rename_i t heq
    rw [heq] at h
    exact (List.mem_cons.1 h).resolve_left hx
  · exact h
theorem run_no {s d : ByteArray} {x : Int} (h : x ∈ bts s) (hx : x ≠ 95) (hd : memB d x = false) : runF s d = false := by
  rw [run_iff]
  cases hr : runA (memB d) false (bts s) with
  | false => rfl
  | true =>
    rcases runA_all hr x h with h1 | h1
    · rw [hd] at h1; cases h1
    · exact absurd h1 hx
/-- No exponent's letter, no point: no floating-point number. -/
theorem float_no {s : ByteArray} (hp : isHexP s = false) (h : ∀ x ∈ bts s, x ≠ 101 ∧ x ≠ 69 ∧ x ≠ 46) : isFloatF s = false := by
  have hin := bts_in s
  have c1 : cutF s eE = (s, ⟨#[]⟩, false) := by
    rcases cutF_ok s eE with ⟨_, c, h2, h3, _⟩ | ⟨h1, h2, h3, _⟩
    · have hc : c ∈ bts s := by rw [h2]; simp
      have := memB_two (a := 101) (b := 69) (hin c hc).1 (hin c hc).2 h3
      have hh := h c hc
      have e1 : ((101 : UInt8).toNat : Int) = 101 := rfl
      have e2 : ((69 : UInt8).toNat : Int) = 69 := rfl
      omega
    · rw [← h1, ← h3]
      exact Prod.ext h2 rfl
  have c2 : cutF s dotB = (s, ⟨#[]⟩, false) := by
    rcases cutF_ok s dotB with ⟨_, c, h2, h3, _⟩ | ⟨h1, h2, h3, _⟩
    · have hc : c ∈ bts s := by rw [h2]; simp
      have := memB_one (a := 46) (hin c hc).1 (hin c hc).2 h3
      have hh := h c hc
      have e1 : ((46 : UInt8).toNat : Int) = 46 := rfl
      omega
    · rw [← h1, ← h3]
      exact Prod.ext h2 rfl
  unfold isFloatF
  rw [if_neg (by rw [hp]; decide), c1]
  simp only
  rw [c2]
  unfold decFl
  simp
theorem hexP_no {s : ByteArray} (h : ∀ t, bts s ≠ 48 :: 120 :: t ∧ bts s ≠ 48 :: 88 :: t) : isHexP s = false := by
  have key : ∀ b : UInt8, Lib.hasPrefix s.data.toList [48, b] = true → ∃ t, bts s = 48 :: ((b.toNat : Nat) : Int) :: t := fun b hb => by
    unfold Lib.hasPrefix at hb
    obtain ⟨t, ht⟩ := List.isPrefixOf_iff_prefix.1 hb
    refine ⟨t.map (fun b => ((b.toNat : Nat) : Int)), ?_⟩
    unfold bts; rw [← ht]; rfl
  unfold isHexP
  cases h1 : Lib.hasPrefix s.data.toList [48, 120] with
  | true => obtain ⟨t, ht⟩ := key 120 h1; exact absurd ht (h t).1
  | false =>
    cases h2 : Lib.hasPrefix s.data.toList [48, 88] with
    | true => obtain ⟨t, ht⟩ := key 88 h2; exact absurd ht (h t).2
    | false => rfl
theorem last_get {s : ByteArray} {l : List Int} {x : Int} (h : bts s = l ++ [x]) : s.size = l.length + 1 ∧ (((s.get! (s.size - 1)).toNat : Nat) : Int) = x ∧ bts (s.extract 0 (s.size - 1)) = l := by
  have hl : s.size = l.length + 1 := by rw [← bts_len, h]; simp
  have hg := bts_get (s := s) (j := s.size - 1) (by omega)
  refine ⟨hl, ?_, ?_⟩
  · rw [h, List.getElem?_append_right (by omega), show s.size - 1 - l.length = 0 by omega] at hg
    simp only [List.getElem?_cons_zero, Option.some.injEq] at hg
    exact hg.symm
  · rw [bts_extract _ _ _ (by omega), List.drop_zero, Nat.sub_zero, h, List.take_append_of_le_length (by omega), List.take_of_length_le (by omega)]
theorem first_get {s : ByteArray} {l : List Int} {x : Int} (h : bts s = x :: l) : (((s.get! 0).toNat : Nat) : Int) = x ∧ bts (s.extract 1 s.size) = l ∧ 0 < s.size := by
  have hl : 0 < s.size := by rw [← bts_len, h]; simp
  have := bts_cons hl
  rw [h] at this
  obtain ⟨h1, h2⟩ := List.cons.inj this
  exact ⟨h1.symm, h2.symm, hl⟩
theorem second_get {s : ByteArray} {l : List Int} {x y : Int} (h : bts s = x :: y :: l) : (((s.get! 0).toNat : Nat) : Int) = x ∧ (((s.get! 1).toNat : Nat) : Int) = y ∧ bts (s.extract 2 s.size) = l ∧ 2 ≤ s.size := by
  have hl : 2 ≤ s.size := by rw [← bts_len, h]; simp
  have := bts_two hl
  rw [h] at this
  obtain ⟨h1, h2⟩ := List.cons.inj this
  obtain ⟨h3, h4⟩ := List.cons.inj h2
  exact ⟨h1.symm, h3.symm, h4.symm, hl⟩
theorem memB_dec_of {x : Int} (h0 : 48 ≤ x) (h1 : x ≤ 57) : memB decB x = true := by
  have : x = 48 ∨ x = 49 ∨ x = 50 ∨ x = 51 ∨ x = 52 ∨ x = 53 ∨ x = 54 ∨ x = 55 ∨ x = 56 ∨ x = 57 := by omega
  rcases this with rfl | rfl | rfl | rfl | rfl | rfl | rfl | rfl | rfl | rfl <;> decide +kernel
theorem runA_digits {prev : Bool} : ∀ {l : List Int}, (∀ x ∈ l, 48 ≤ x ∧ x ≤ 57) → (l ≠ [] ∨ prev = true) → runA (memB decB) prev l = true
  | [], _, h => by
    simp only [runA]
    exact h.resolve_left (fun h => h rfl)
  | c :: t, h, _ => by
    have hc := h c (by simp)
    simp only [runA]
    rw [if_neg (by omega), memB_dec_of hc.1 hc.2, runA_digits (fun x hx => h x (List.mem_cons_of_mem _ hx)) (.inr rfl)]
    rfl
theorem imag_kind {s : ByteArray} {d : List Int} (hd : ∀ x ∈ d, 48 ≤ x ∧ x ≤ 57) (h : bts s = 48 :: (d ++ [105])) : kindOfF s = 2 := by
  obtain ⟨l1, l2, l3⟩ := last_get (l := 48 :: d) (x := 105) (by rw [h]; rfl)
  obtain ⟨f1, f2, f3⟩ := first_get h
  have hx : ∀ x ∈ bts s, x = 48 ∨ (48 ≤ x ∧ x ≤ 57) ∨ x = 105 := fun x hx => by
    rw [h] at hx
    rcases List.mem_cons.1 hx with rfl | hx
    · exact .inl rfl
    · rcases List.mem_append.1 hx with hx | hx
      · exact .inr (.inl (hd x hx))
      · simp only [List.mem_singleton] at hx; exact .inr (.inr hx)
  have h2 : 2 ≤ s.size := by rw [l1]; simp
  have hb2 := bts_two h2
  have hs1 : (((s.get! 1).toNat : Nat) : Int) ∈ d ++ [105] := by
    rw [hb2] at h
    rw [← (List.cons.inj h).2]; simp
  have hs1' : (48 ≤ (s.get! 1).toNat ∧ (s.get! 1).toNat ≤ 57) ∨ (s.get! 1).toNat = 105 := by
    rcases List.mem_append.1 hs1 with hs | hs
    · have := hd _ hs; omega
    · simp only [List.mem_singleton] at hs; omega
  have hR : intR s = (octB, s.extract 1 s.size) := by
    unfold intR
    rw [if_neg (by omega), if_neg (by omega), if_neg (by omega)]
  have hI : isIntF s = false := by
    unfold isIntF
    rw [if_neg (by omega), hR]
    exact run_no (x := 105) (trimU_mem (by rw [f2]; simp) (by decide)) (by decide) (show memB octB 105 = false by decide +kernel)
  have hF : isFloatF s = false := by
    refine float_no (hexP_no (fun t => ⟨fun e => ?_, fun e => ?_⟩)) (fun x hx' => by have := hx x hx'; omega)
    · obtain ⟨_, g, _, _⟩ := second_get e; omega
    · obtain ⟨_, g, _, _⟩ := second_get e; omega
  have hrun : runF (s.extract 0 (s.size - 1)) decB = true := by
    rw [run_iff, l3]
    exact runA_digits (fun x hx => by
      rcases List.mem_cons.1 hx with rfl | hx
      · omega
      · exact hd x hx) (.inl (by simp))
  unfold kindOfF
  rw [if_neg (by omega), if_neg (by rw [hI]; decide), if_neg (by rw [hF]; decide), if_pos (by omega), if_pos ⟨by omega, .inr (.inr hrun)⟩]
theorem low_kind {s : ByteArray} {d : List Int} (hd : ∀ x ∈ d, 48 ≤ x ∧ x ≤ 57) (h : bts s = 49 :: (d ++ [95, 95, 48])) : kindOfF s = -1 := by
  obtain ⟨l1, l2, l3⟩ := last_get (l := 49 :: (d ++ [95, 95])) (x := 48) (by rw [h]; simp)
  obtain ⟨f1, f2, f3⟩ := first_get h
  have hx : ∀ x ∈ bts s, (48 ≤ x ∧ x ≤ 57) ∨ x = 95 := fun x hx => by
    rw [h] at hx
    simp only [List.mem_cons, List.mem_append, List.not_mem_nil, or_false] at hx
    rcases hx with rfl | hx | rfl | rfl | rfl
    · omega
    · exact .inl (hd x hx)
    all_goals omega
  have hI : isIntF s = false := by
    unfold isIntF
    rw [if_pos (.inr (by omega)), run_iff]
    cases hr : runA (memB decB) false (bts s) with
    | false => rfl
    | true =>
      have hn := ((runA_iff _ _).1 hr).2.2.2.2
      rw [noDbl_iff] at hn
      refine absurd ?_ (hn (d.length + 1))
      rw [h]
      constructor
      · rw [List.getElem?_cons_succ, List.getElem?_append_right (Nat.le_refl _)]; simp
      · rw [List.getElem?_cons_succ, List.getElem?_append_right (by omega)]; simp
  have hF : isFloatF s = false := by
    refine float_no (hexP_no (fun t => ⟨fun e => ?_, fun e => ?_⟩)) (fun x hx' => by have := hx x hx'; omega)
    · obtain ⟨g, _, _, _⟩ := second_get e; omega
    · obtain ⟨g, _, _, _⟩ := second_get e; omega
  unfold kindOfF
  rw [if_neg (by omega), if_neg (by rw [hI]; decide), if_neg (by rw [hF]; decide), if_neg (by omega)]
theorem bin_kind {s : ByteArray} {d : List Int} (hd : ∀ x ∈ d, 48 ≤ x ∧ x ≤ 57) (h : bts s = 48 :: 98 :: 49 :: (d ++ [50])) : kindOfF s = -1 := by
  obtain ⟨l1, l2, l3⟩ := last_get (l := 48 :: 98 :: 49 :: d) (x := 50) (by rw [h]; simp)
  obtain ⟨f1, f2, f3, f4⟩ := second_get h
  have hx : ∀ x ∈ bts s, (48 ≤ x ∧ x ≤ 57) ∨ x = 98 := fun x hx => by
    rw [h] at hx
    simp only [List.mem_cons, List.mem_append, List.not_mem_nil, or_false] at hx
    rcases hx with rfl | rfl | rfl | hx | rfl
    · omega
    · omega
    · omega
    · exact .inl (hd x hx)
    · omega
  have hI : isIntF s = false := by
    have hR : intR s = (binB, s.extract 2 s.size) := by
      unfold intR
      rw [if_neg (by omega), if_pos (by omega)]
    unfold isIntF
    rw [if_neg (by omega), hR]
    exact run_no (x := 50) (trimU_mem (by rw [f3]; simp) (by decide)) (by decide) (show memB binB 50 = false by decide +kernel)
  have hF : isFloatF s = false := by
    refine float_no (hexP_no (fun t => ⟨fun e => ?_, fun e => ?_⟩)) (fun x hx' => by have := hx x hx'; omega)
    · obtain ⟨_, g, _, _⟩ := second_get e; omega
    · obtain ⟨_, g, _, _⟩ := second_get e; omega
  unfold kindOfF
  rw [if_neg (by omega), if_neg (by rw [hI]; decide), if_neg (by rw [hF]; decide), if_neg (by omega)]
end Sc
end Go.Proofs.YtogkcphobhhbdaaDoor

/- FnImaginary walked: true at every number. -/
namespace Go.Proofs.YtogkcphobhhbdaaDoor
open Go Go.RowKit Go.Lib
namespace Sc
open Ev
set_option maxRecDepth 100000
/-- Known slots of a frame of 47. -/
structure SIm (v0 vd vm : Value) (a : Act) : Prop where
  defers : a.defers = []
  size : a.tmps.size = 47
  s0 : a.tmps[0]? = some v0
  s3 : a.tmps[3]? = some vd
  s4 : a.tmps[4]? = some vm
theorem SIm.lit {v0 vd vm : Value} {a : Act} (h : SIm v0 vd vm a) : ∃ x : Nat → Value, a = { tmps := #[v0, x 1, x 2, vd, vm, x 5, x 6, x 7, x 8, x 9, x 10, x 11, x 12, x 13, x 14, x 15, x 16, x 17, x 18, x 19, x 20, x 21, x 22, x 23, x 24, x 25, x 26, x 27, x 28, x 29, x 30, x 31, x 32, x 33, x 34, x 35, x 36, x 37, x 38, x 39, x 40, x 41, x 42, x 43, x 44, x 45, x 46], defers := [] } := by
  refine ⟨fun i => a.tmps.getD i undef, ?_⟩
  obtain ⟨t, d⟩ := a
  obtain ⟨h1, h2, k0, k3, k4⟩ := h
  simp only at h1 h2 k0 k3 k4
  subst h1
  have e0 : t.getD 0 undef = v0 := by rw [Array.getD_eq_getD_getElem?, k0]; rfl
  have e3 : t.getD 3 undef = vd := by rw [Array.getD_eq_getD_getElem?, k3]; rfl
  have e4 : t.getD 4 undef = vm := by rw [Array.getD_eq_getD_getElem?, k4]; rfl
  have ht := tmpsN 47 t h2
  rw [← e0, ← e3, ← e4]
  exact congrArg (fun t => ({ tmps := t, defers := [] } : Act)) ht
theorem SIm.of {v0 vd vm : Value} (x : Nat → Value) : SIm v0 vd vm { tmps := #[v0, x 1, x 2, vd, vm, x 5, x 6, x 7, x 8, x 9, x 10, x 11, x 12, x 13, x 14, x 15, x 16, x 17, x 18, x 19, x 20, x 21, x 22, x 23, x 24, x 25, x 26, x 27, x 28, x 29, x 30, x 31, x 32, x 33, x 34, x 35, x 36, x 37, x 38, x 39, x 40, x 41, x 42, x 43, x 44, x 45, x 46], defers := [] } := ⟨rfl, rfl, rfl, rfl, rfl⟩
noncomputable abbrev imBody : Code := bodyOf Tryd.f11
noncomputable abbrev imLoop : Code := loopOf (blkOf imBody 0)
noncomputable abbrev imP (n : Nat) : Code := fstC (cutTail n imBody)
theorem im_body : (Tryd.f11).body = some (.seq (imP 0) (.seq (imP 1) (.seq (.seq (fstC (imP 2)) (.block 0 (.loop imLoop))) (.seq (imP 3) (cutTail 4 imBody))))) := by kernel_rfl
theorem im_out {w : World} {v0 vd : Value} (a : Act) (hz : SIm v0 vd (.int .u32 0) a) (Q : Exit → Act → World → Prop) (hQ : ∀ a', SIm v0 vd (.int .u32 0) a' → Q (.exit 0) a' w) : imLoop.wp Tryd.prog Q a w := by
  obtain ⟨x, rfl⟩ := hz.lit
  clear hz
  simp only [imLoop, imBody, bodyOf, Tryd.f11, Option.getD, blkOf, loopOf, cond, Nat.beq]
  go_wp2_with fail
  exact ⟨rfl, rfl, rfl, rfl, rfl⟩
set_option maxHeartbeats 1600000 in
theorem im_round {w : World} {v0 : Value} {d : ByteArray} {m : Nat} (hm : 0 < m) (hm2 : m < 4294967296) (hd : d.size ≤ 1000) (a : Act) (hz : SIm v0 (.string d) (.int .u32 m) a) (Q : Exit → Act → World → Prop)
    (hQ : ∀ a' w', SIm v0 (.string (⟨#[UInt8.ofNat (48 + m % 10)]⟩ ++ d)) (.int .u32 (m / 10 : Nat)) a' → Below w.heap.size w w' → Q .normal a' w') : imLoop.wp Tryd.prog Q a w := by
  obtain ⟨x, rfl⟩ := hz.lit
  clear hz
  have k1 : (0 : Int) < (m : Int) := by omega
  have k2 : (m : Int).tmod 10 = ((m % 10 : Nat) : Int) := by rw [Int.tmod_eq_emod_of_nonneg (by omega)]; omega
  have k3 : IntKind.u32.wrap (48 + ((m % 10 : Nat) : Int)) = ((48 + m % 10 : Nat) : Int) := by rw [IntKind.wrap_u32]; omega
  have k4 : IntKind.u8.wrap (((48 + m % 10 : Nat)) : Int) = ((48 + m % 10 : Nat) : Int) := by rw [IntKind.wrap_u8]; omega
  have k5 : (m : Int).tdiv 10 = ((m / 10 : Nat) : Int) := by rw [Int.tdiv_eq_ediv_of_nonneg (by omega)]; omega
  have hs : (⟨#[UInt8.ofNat (48 + m % 10)]⟩ : ByteArray) = strOfNums [((48 + m % 10 : Nat) : Int)] := by
    show _ = (⟨#[UInt8.ofNat ((48 + m % 10 : Nat) : Int).toNat]⟩ : ByteArray)
    rw [Int.toNat_natCast]
  rw [hs] at hQ
  clear hs
  generalize m % 10 = r at k2 k3 k4 hQ
  generalize 48 + r = c at k3 k4 hQ
  have k6 : (((m / 10 : Nat)) : Int) % 4294967296 = ((m / 10 : Nat) : Int) := by omega
  generalize m / 10 = mm at k5 k6 hQ
  have hcv : Sem.run Tryd.prog (convert 45 9 (.slice (some ⟨w.heap.size, 0, none⟩) 1 1)) (w.alloc (.cells #[.int .u8 (c : Int)] 5)) = .ok (.string (strOfNums [(c : Int)])) (w.alloc (.cells #[.int .u8 (c : Int)] 5)) := conv_own (own_byte w (c : Int)) (by decide)
  have hB : Below w.heap.size w (w.alloc (.cells #[.int .u8 (c : Int)] 5)) := Below.alloc (Below.refl _ _) (Nat.le_refl _) _
  have hss : (strOfNums [(c : Int)]).size + d.size ≤ 9223372036854775807 := by
    have : (strOfNums [(c : Int)]).size = 1 := rfl
    omega
  generalize strOfNums [(c : Int)] = sc at hcv hQ hss
  simp only [imLoop, imBody, bodyOf, Tryd.f11, Option.getD, blkOf, loopOf, cond, Nat.beq]
  go_wp2_with fail
  exact hQ _ _ ⟨rfl, rfl, rfl, rfl, rfl⟩ hB
theorem im_loop {w0 : World} {v0 : Value} (Q : Exit → Act → World → Prop) : ∀ (f m : Nat) (d : ByteArray) (a : Act) (w : World), m < 10 ^ f → f ≤ 10 → m < 4294967296 → d.size + f ≤ 1000 → SIm v0 (.string d) (.int .u32 m) a → Below w0.heap.size w0 w →
      (∀ a w, SIm v0 (.string (decN f m d)) (.int .u32 0) a → Below w0.heap.size w0 w → Q .normal a w) →
      Code.rounds Tryd.prog imLoop (Exit.inBlock 0 Q) (f + 1) a w
  | 0, m, d, a, w, hm, hf, hm2, hd, hz, hb, hQ => by
    have : m = 0 := by omega
    subst this
    rw [rounds_succ]
    exact im_out a hz _ (fun a' z' => hQ a' w z' hb)
  | f + 1, m, d, a, w, hm, hf, hm2, hd, hz, hb, hQ => by
    rw [rounds_succ]
    by_cases h0 : 0 < m
    · simp only [decN, if_pos h0] at hQ
      have h10 : m / 10 < 10 ^ f := by
        rw [Nat.pow_succ] at hm
        omega
      refine im_round h0 hm2 (by omega) a hz _ (fun a' w' z' b' => ?_)
      exact im_loop Q f (m / 10) _ a' w' h10 (by omega) (by omega) (by rw [app_size]; show 1 + d.size + f ≤ 1000; omega) z' (below_up hb b') hQ
    · have : m = 0 := by omega
      subst this
      simp only [decN, if_neg h0] at hQ
      exact im_out a hz _ (fun a' z' => hQ a' w z' hb)
theorem im_first {w : World} {n : Int} (B C : Code) (Q : Exit → Act → World → Prop)
    (hQ : ∀ a, SIm (.int .u32 n) (.string ⟨#[]⟩) (.int .u32 n) a → B.wp Tryd.prog (Exit.then (fun a w => C.wp Tryd.prog Q a w) Q) a w) :
    (Code.seq (imP 0) (.seq (imP 1) (.seq (.seq (fstC (imP 2)) B) C))).wp Tryd.prog Q { tmps := #[.int .u32 n] ++ Array.replicate 46 undef, defers := [] } w := by
  simp only [imP, fstC, imBody, bodyOf, Tryd.f11, Option.getD, cutTail, cutN, Option.map, Array.replicate_succ, Array.replicate_zero, List.push_toArray, List.append_toArray, List.nil_append, List.cons_append]
  go_wp2_with fail
  rename_i K hK
  refine Code.wp_mono (fun e a w h => ?_) (hQ _ ⟨rfl, rfl, rfl, rfl, rfl⟩)
  cases e <;> first | exact hK _ _ h | exact h
set_option maxHeartbeats 3200000 in
theorem im_last {w w0 : World} {ea : Addr} {v0 vm : Value} {d : ByteArray} (hG : Glob w0 ea) (hB : Below w0.heap.size w0 w) (hd : ∀ x ∈ bts d, 48 ≤ x ∧ x ≤ 57) (hsz : d.size ≤ 1000) (a : Act) (hz : SIm v0 (.string d) vm a) (Q : Exit → Act → World → Prop)
    (hQ : ∀ a' w', a'.defers = [] → a'.tmps[2]? = some (.bool true) → Below w0.heap.size w0 w' → Q .ret a' w') : (Code.seq (imP 3) (cutTail 4 imBody)).wp Tryd.prog Q a w := by
  obtain ⟨x, rfl⟩ := hz.lit
  clear hz
  have e1 : bts (⟨#[48]⟩ ++ d ++ ⟨#[105]⟩) = 48 :: (bts d ++ [105]) := by rw [bts_app, bts_app]; rfl
  have e2 : bts (⟨#[49]⟩ ++ d ++ ⟨#[95, 95, 48]⟩) = 49 :: (bts d ++ [95, 95, 48]) := by rw [bts_app, bts_app]; rfl
  have e3 : bts (⟨#[48, 98, 49]⟩ ++ d ++ ⟨#[50]⟩) = 48 :: 98 :: 49 :: (bts d ++ [50]) := by rw [bts_app, bts_app]; rfl
  have s1 : (⟨#[48]⟩ ++ d ++ ⟨#[105]⟩ : ByteArray).size ≤ 2048 := by rw [app_size, app_size]; show 1 + d.size + 1 ≤ 2048; omega
  have s2 : (⟨#[49]⟩ ++ d ++ ⟨#[95, 95, 48]⟩ : ByteArray).size ≤ 2048 := by rw [app_size, app_size]; show 1 + d.size + 3 ≤ 2048; omega
  have s3 : (⟨#[48, 98, 49]⟩ ++ d ++ ⟨#[50]⟩ : ByteArray).size ≤ 2048 := by rw [app_size, app_size]; show 3 + d.size + 1 ≤ 2048; omega
  have hK1 := fun w => kindOf_walk w (⟨#[48]⟩ ++ d ++ ⟨#[105]⟩) (by omega)
  have hK2 := fun w => kindOf_walk w (⟨#[49]⟩ ++ d ++ ⟨#[95, 95, 48]⟩) (by omega)
  have hK3 := fun w => kindOf_walk w (⟨#[48, 98, 49]⟩ ++ d ++ ⟨#[50]⟩) (by omega)
  have k1 := imag_kind hd e1
  obtain ⟨hA, h0⟩ := number_law (s := ⟨#[48]⟩ ++ d ++ ⟨#[105]⟩) s1 (by rw [k1]; decide)
  rw [k1] at hA hK1
  rw [low_kind hd e2] at hK2
  rw [bin_kind hd e3] at hK3
  have hC := fun w => closed_one_walk w (litW (⟨#[48]⟩ ++ d ++ ⟨#[105]⟩) 2)
  have hTo := fun w gw capw b1 hG => toldL_walk (w := w) (ea := ea) (gw := gw) (capw := capw) (b1 := b1) hG s1 hA h0
  clear hA h0 e1 e2 e3 k1
  have hl : litW (⟨#[48]⟩ ++ d ++ ⟨#[105]⟩) 2 = ⟨2, ⟨#[48]⟩ ++ d ++ ⟨#[105]⟩, 2, 0, 0⟩ := rfl
  generalize closedF [litW (⟨#[48]⟩ ++ d ++ ⟨#[105]⟩) 2] (litW (⟨#[48]⟩ ++ d ++ ⟨#[105]⟩) 2) = W at hC hTo
  have z1 : (d.size : Int) ≤ 1000 := by omega
  simp only [imP, fstC, imBody, bodyOf, Tryd.f11, Option.getD, cutTail, cutN, Option.map]
  go_wp2_with (first
    | (go_at_call 21; have hh := hB5; refine (hTo _ _ _ _ (glob_move hG hB5) hrow5).mono ?_; rintro en w6 ⟨rfl, hB6⟩; have hB6 := below_up hB5 hB6)
    | (go_at_call 22; have hh := hB4; refine (hC _).mono ?_; rintro en w5 ⟨g5, cap5, b5, rfl, hrow5, hB5⟩; have hB5 := below_up hB4 hB5)
    | (go_at_call 27; have hh := hB3; with_reducible refine (hK3 _).mono ?_; rintro en w4 ⟨rfl, hB4⟩; have hB4 := below_up hB3 hB4)
    | (go_at_call 27; have hh := hB2; with_reducible refine (hK2 _).mono ?_; rintro en w3 ⟨rfl, hB3⟩; have hB3 := below_up hB2 hB3)
    | (go_at_call 27; with_reducible refine (hK1 _).mono ?_; rintro en w2 ⟨rfl, hB2⟩; have hB2 := below_up hB hB2))
  exact hQ _ _ rfl rfl hB6
theorem fnImaginary_walk {w : World} {ea : Addr} (n : Int) (hG : Glob w ea) (hn : 0 ≤ n ∧ n ≤ 4294967295) : Calls Tryd.prog 11 #[.int .u32 n] w fun en w' => en = .returned (.bool true) ∧ Below w.heap.size w w' := by
  obtain ⟨m, rfl⟩ := Int.eq_ofNat_of_zero_le hn.1
  refine calls_of_wp Tryd.func11 im_body ?_
  have hnt : (Tryd.f11).ntmps - (#[.int .u32 (m : Int)] : Array Value).size = 46 := by kernel_rfl
  rw [hnt]
  refine im_first _ _ _ (fun a z => ?_)
  refine wp_block (wp_loop_rounds (10 + 1) ?_)
  refine im_loop (w0 := w) _ 10 m ⟨#[]⟩ a w (by omega) (Nat.le_refl _) (by omega) (by decide) z (Below.refl _ _) (fun a2 w2 z2 b2 => ?_)
  obtain ⟨k1, k2⟩ := decN_in 10 m ⟨#[]⟩ (fun x hx => absurd hx List.not_mem_nil)
  show (Code.seq (imP 3) (cutTail 4 imBody)).wp _ _ a2 w2
  exact im_last hG b2 k1 (by have : (⟨#[]⟩ : ByteArray).size = 0 := rfl; omega) a2 z2 _ (fun a3 w3 d0 d2 b3 => ⟨d0, _, one_res (k := 2) (by kernel_rfl) d2, rfl, b3⟩)
end Sc
end Go.Proofs.YtogkcphobhhbdaaDoor

/- From the listed variables to what the scanner reads of them. -/
namespace Go.Proofs.YtogkcphobhhbdaaDoor
open Go Go.RowKit Go.Lib Go.Shelf
namespace Sc
set_option maxRecDepth 100000
/-- The numbers of this dump, for the library's laws on tables. -/
def tabRen : Go.Shelf.Ren := ⟨fun n => n, fun | 3 => 3 | 49 => 120 | 51 => 44 | 141 => 94 | 196 => 119 | 193 => 116 | 194 => 117 | 198 => 122 | 201 => 125 | 5 => 5 | 119 => 115 | 138 => 152 | 139 => 153 | n => n, fun | 3 => 7 | 4 => 8 | n => n⟩
theorem tabR : RTypes Tryd.prog tabRen := ⟨Tryd.underlying3, Tryd.underlying120, Tryd.underlying44, Tryd.underlying94, Tryd.underlying116, Tryd.underlying117, Tryd.underlying119, Tryd.underlying122, Tryd.underlying125⟩
theorem tabX : RExtra Tryd.prog tabRen := ⟨by kernel_rfl, by kernel_rfl, by kernel_rfl, by kernel_rfl, by kernel_rfl, by kernel_rfl, by kernel_rfl, by kernel_rfl⟩
theorem u8R : U8Types Tryd.prog tabRen := ⟨Tryd.underlying5, Tryd.underlying115, Tryd.underlying152, Tryd.underlying153⟩
theorem u8X : U8Extra Tryd.prog tabRen := ⟨by kernel_rfl, by kernel_rfl, by kernel_rfl, by kernel_rfl, by kernel_rfl, by kernel_rfl, by kernel_rfl⟩
theorem errRow (u : TypeId) (h : Tryd.prog.typeName? 3 u = some "*errors.errorString") : u = 167 :=
  typeName_ptr_named (nm := "errors.errorString") (by rw [show "*" ++ "errors.errorString" = "*errors.errorString" by rfl]; kernel_rfl) (by kernel_rfl) (by decide) u (by rw [show "*" ++ "errors.errorString" = "*errors.errorString" by rfl]; exact h)
theorem tab_cell {W : World} {name : String} {g : Nat} {t e : TypeId} {n : Nat} {zs : List Int} (hg : Tryd.prog.globalNamed name = some g) (hy : (Tryd.prog.globals[g]?).map (·.type) = some t) (ht : Tryd.prog.underlying t = some (.array n e)) (he : Tryd.prog.underlying e = some (.int .u8)) (hce : Tryd.prog.cellsOf e = 1) (hct : Tryd.prog.cellsOf t = n)
    (h : VarReads Tryd.prog W name (tabData .u8 zs)) : TabIs Tryd.prog W name .u8 zs := by
  obtain ⟨g', t', cs, fuel, p, hg', hty, hvar, hd⟩ := h
  obtain rfl := Option.some.inj (hg.symm.trans hg')
  obtain rfl := Option.some.inj (hy.symm.trans hty)
  have hcs := cells_of_tab ht he hce hct hd
  unfold TabIs
  rw [hvar, ← hcs]
def tokTab : List Int := [0, 3, 7, 14, 16, 19, 23, 24, 26, 28, 29, 30, 31, 32, 33, 34, 35, 36, 37, 38, 39, 42, 47, 51, 55, 60, 68, 75, 80, 84, 95, 98, 102, 104, 108, 110, 116, 125, 128, 135, 140, 146, 152, 158, 164, 168, 171, 171]
def opTab : List Int := [0, 1, 2, 4, 5, 7, 9, 11, 13, 14, 16, 17, 19, 20, 21, 22, 23, 24, 25, 26, 27, 29, 31, 33]
theorem glob_of {W : World} (h : laidMet Tryd.prog Rows.fnEndsRow.laid W) : ∃ ea, Glob W ea := by
  have rd : ∀ {n : String} {d : DataW Unit}, (n, d) ∈ Rows.fnEndsRow.laid → VarReads Tryd.prog W n d := fun hm => Lib.laidMet.reads h hm
  have h5 := h.tail.tail.tail.tail
  obtain ⟨ea, s, hv, _, _, _⟩ := laid_sentinel (n := "io.EOF") (nm := "*errors.errorString") (text := [69, 79, 70]) h5 (g := 6) (by kernel_rfl) (by kernel_rfl) Tryd.underlying75 errRow Tryd.underlying167 Tryd.underlying181 rfl rfl Tryd.underlying9 (by kernel_rfl) (by kernel_rfl)
  have mem : ∀ i x, Rows.fnEndsRow.laid[i]? = some x → x ∈ Rows.fnEndsRow.laid := fun i x hx => List.mem_of_getElem? hx
  have r3 := rd (mem 3 ("unicode/utf8.acceptRanges", Rows.laid_unicode_utf8_acceptRanges) rfl)
  have r6 := rd (mem 6 ("unicode.properties", Rows.laid_unicode_properties) rfl)
  have r7 := rd (mem 7 (_, Rows.laid_loop_example_pub_g03120_pub_gosyntax_Operator_index) rfl)
  have r8 := rd (mem 8 (_, Rows.laid_loop_example_pub_g03120_pub_gosyntax_token_index) rfl)
  have r9 := rd (mem 9 ("unicode.Digit", Rows.laid_unicode_Digit) rfl)
  have r10 := rd (mem 10 ("unicode.Letter", Rows.laid_unicode_Letter) rfl)
  have r11 := rd (mem 11 ("unicode/utf8.first", Rows.laid_unicode_utf8_first) rfl)
  have e3 : (Rows.laid_unicode_utf8_acceptRanges : DataW Unit) = acceptData := by kernel_rfl
  have e6 : (Rows.laid_unicode_properties : DataW Unit) = tabData .u8 propertiesTab := by kernel_rfl
  have e7 : (Rows.laid_loop_example_pub_g03120_pub_gosyntax_Operator_index : DataW Unit) = tabData .u8 opTab := by kernel_rfl
  have e8 : (Rows.laid_loop_example_pub_g03120_pub_gosyntax_token_index : DataW Unit) = tabData .u8 tokTab := by kernel_rfl
  rw [e3] at r3
  rw [e6] at r6
  rw [e7] at r7
  rw [e8] at r8
  have r9' : VarReads Tryd.prog W "unicode.Digit" (rtabData digitT) := Pinned.digit_eq ▸ r9
  have r10' : VarReads Tryd.prog W "unicode.Letter" (rtabData letterT) := Pinned.letter_eq ▸ r10
  have r11' : VarReads Tryd.prog W "unicode/utf8.first" firstData := Pinned.utf8First_eq ▸ r11
  have t7 := tab_cell (g := 2) (t := 114) (by kernel_rfl) (by kernel_rfl) Tryd.underlying114 Tryd.underlying5 (by kernel_rfl) (by kernel_rfl) r7
  have t8 := tab_cell (g := 1) (t := 113) (by kernel_rfl) (by kernel_rfl) Tryd.underlying113 Tryd.underlying5 (by kernel_rfl) (by kernel_rfl) r8
  have t6 := tab_cell (g := 4) (t := 115) (by kernel_rfl) (by kernel_rfl) Tryd.underlying115 Tryd.underlying5 (by kernel_rfl) (by kernel_rfl) r6
  have r1 := rd (mem 1 ("math/bits.deBruijn64tab", Rows.laid_math_bits_deBruijn64tab) rfl)
  refine ⟨ea, ?_, ?_, t6, ?_, ?_, ?_, ?_, ?_⟩
  · have := World.var?_cell (show Tryd.prog.globalNamed "io.EOF" = some 6 by kernel_rfl) hv 0
    simpa using this
  · exact utf8Tabs_of_readsT u8R u8X r11' r3
  · exact rvar_of_readsT tabR tabX (name := "unicode.Letter") (g := 5) (by kernel_rfl) (by kernel_rfl) r10'
  · exact rvar_of_readsT tabR tabX (name := "unicode.Digit") (g := 0) (by kernel_rfl) (by kernel_rfl) r9'
  · exact fun i hi => t8.cell (by kernel_rfl) i hi
  · exact fun i hi => t7.cell (by kernel_rfl) i hi
  · obtain ⟨g', t', cs, fuel, p, hg', hty, hvar, hd⟩ := r1
    obtain rfl := Option.some.inj ((show Tryd.prog.globalNamed "math/bits.deBruijn64tab" = some 12 by kernel_rfl).symm.trans hg')
    unfold World.var? at hvar
    rw [hg'] at hvar
    simp only [Option.bind_some] at hvar
    cases hh : W.heap[12]? with
    | none => rw [hh] at hvar; cases hvar
    | some o => exact (Array.getElem?_eq_some_iff.1 hh).1
end Sc
end Go.Proofs.YtogkcphobhhbdaaDoor
