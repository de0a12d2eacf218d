/- The scanner of the program told as plain functions, part 5: texts joined by a program (wip/tools/shake.py), without what this claim does not reach. -/
import Derived.Test.YtogkcphobhhbdaaDoorBk4
import Derived.Test.YtogkcphobhhbdaaDoorRows
import Derived.PinnedBridge
import Derived.Lib.LaidRTabT
import Derived.Lib.LaidU8T
import Derived.Stop.LaidErr
import Derived.Lay
import Derived.LaidMore
import Derived.ProofKit
import Derived.OpenShut
import Derived.OpenVars
import Derived.SevenTiedAt
import Derived.Stop.Joined
set_option linter.unusedVariables false
set_option linter.unusedSimpArgs false
/- Plain: runs of digits with low lines between; separators. -/
namespace Go.Proofs.YtogkcphobhhbdaaDoor
open Go Go.RowKit Go.Lib
namespace Sc
open Ev
set_option maxRecDepth 100000
/-- A text's bytes. -/
def bts (s : ByteArray) : List Int := s.data.toList.map fun b => ((b.toNat : Nat) : Int)
theorem bts_len (s : ByteArray) : (bts s).length = s.size := by unfold bts; rw [List.length_map]; exact size_toList s
theorem bts_get {s : ByteArray} {j : Nat} (h : j < s.size) : (bts s)[j]? = some (((s.get! j).toNat : Nat) : Int) := by
  have hl : j < s.data.toList.length := by rw [size_toList]; exact h
  rw [get_list, List.getD_eq_getElem?_getD]
  unfold bts
  rw [List.getElem?_map, List.getElem?_eq_getElem hl]
  rfl
theorem bts_in (s : ByteArray) : ∀ x ∈ bts s, 0 ≤ x ∧ x < 256 := fun x hx => by
  obtain ⟨b, _, rfl⟩ := List.mem_map.1 hx
  have := b.toNat_lt
  omega
theorem bts_app (a b : ByteArray) : bts (a ++ b) = bts a ++ bts b := by unfold bts; rw [app_list, List.map_append]
theorem bts_drop_cons {s : ByteArray} {j : Nat} (h : j < s.size) : (bts s).drop j = (((s.get! j).toNat : Nat) : Int) :: (bts s).drop (j + 1) := by
  have hg := bts_get h
  have hl : j < (bts s).length := by rw [bts_len]; exact h
  rw [List.drop_eq_getElem_cons hl]
  rw [List.getElem?_eq_getElem hl] at hg
  simp only [Option.some.injEq] at hg
  rw [hg]
/-! Separators. -/
def sepL (hex : Bool) : Int → List Int → Option Int
  | d, [] => some d
  | d, c :: t => if c = 95 then (if d ≠ 48 then none else sepL hex 95 t) else if isDecimalF c = true ∨ (hex = true ∧ isHexF c = true) then sepL hex 48 t else if d = 95 then none else sepL hex 46 t
theorem sepLF_eq {s : ByteArray} {x1 : Int} (hs : s.size ≤ 100000) (d : Int) (i : Nat) : sepLF s x1 (d, i) =
    if i < s.size then (if chAt s i = 95 then (if d ≠ 48 then (0, some (i : Int)) else sepLF s x1 (95, (i + 1 : Nat)))
      else if isDecimalF (chAt s i) = true ∨ (x1 = 120 ∧ isHexF (chAt s i) = true) then sepLF s x1 (48, (i + 1 : Nat)) else if d = 95 then (0, some (IntKind.i64.wrap ((i : Int) - 1))) else sepLF s x1 (46, (i + 1 : Nat))) else (d, none) := by
  have hI : ∀ a, sepI s a → (sepB s x1 a).sat (Falls (sepI s) (sepM s) a) := fun a ha => sat_mono (sepB_on s x1 a ha) (fun st hs => by
    cases st with
    | go a' => exact hs
    | out q => trivial)
  by_cases hi : i < s.size
  · have hw : IntKind.i64.wrap ((i : Int) + 1) = ((i + 1 : Nat) : Int) := by rw [show (i : Int) + 1 = ((i + 1 : Nat) : Int) by omega]; exact i64_small (by omega) (by omega)
    rw [if_pos hi]
    unfold sepLF
    rw [runF_step hI ⟨by omega, by show (0 : Int) ≤ (i : Int); omega⟩ (.out (0, none))]
    have hlt : ((i : Int) < (s.size : Int)) := by omega
    unfold sepB
    by_cases h1 : chAt s i = 95
    · by_cases h2 : d = 48
      · simp [Tree.get, stepF, hlt, h1, h2, hw]
      · simp [Tree.get, stepF, hlt, h1, h2]
    · cases h3 : isDecimalF (chAt s i)
      · by_cases h4 : x1 = 120
        · cases h5 : isHexF (chAt s i)
          · by_cases h6 : d = 95
            · simp [Tree.get, stepF, hlt, h1, h3, h4, h5, h6]
            · simp [Tree.get, stepF, hlt, h1, h3, h4, h5, h6, hw]
          · simp [Tree.get, stepF, hlt, h1, h3, h4, h5, hw]
        · by_cases h6 : d = 95
          · simp [Tree.get, stepF, hlt, h1, h3, h4, h6]
          · simp [Tree.get, stepF, hlt, h1, h3, h4, h6, hw]
      · simp [Tree.get, stepF, hlt, h1, h3, hw]
  · rw [if_neg hi]
    unfold sepLF
    rw [runF_step hI ⟨by omega, by show (0 : Int) ≤ (i : Int); omega⟩ (.out (0, none))]
    have hlt : ¬ ((i : Int) < (s.size : Int)) := by omega
    unfold sepB
    simp [Tree.get, stepF, hlt]
theorem chAt_get {s : ByteArray} {i : Nat} : chAt s i = ((s.get! i).toNat : Int) := by
  unfold chAt
  have := (s.get! i).toNat_lt
  rw [Int.toNat_natCast, IntKind.wrap_i32]
  omega
/-- Separators that are all right. -/
def sepGood (r : Option Int) : Prop := ∃ d, r = some d ∧ d ≠ 95
theorem sepEnd_ok {s : ByteArray} {x1 : Int} (hs : s.size ≤ 100000) : ∀ (n i : Nat) (d : Int), s.size ≤ i + n → i ≤ s.size → (d = 95 → 1 ≤ i) → (sepEnd s (sepLF s x1 (d, i)) < 0 ↔ sepGood (sepL (decide (x1 = 120)) d ((bts s).drop i))) ∧ (¬ sepEnd s (sepLF s x1 (d, i)) < 0 → 0 ≤ sepEnd s (sepLF s x1 (d, i)))
  | 0, i, d, h1, h2, h3 => by
    have : i = s.size := by omega
    subst this
    rw [sepLF_eq hs, if_neg (by omega), List.drop_eq_nil_of_le (by rw [bts_len]; omega)]
    unfold sepEnd
    simp only [sepL]
    by_cases hd : d = 95
    · have := h3 hd
      have hw := i64_small (n := (s.size : Int) - 1) (by omega) (by omega)
      rw [if_pos hd, hw]
      refine ⟨⟨fun h => by omega, fun ⟨d', h, h'⟩ => ?_⟩, fun _ => by omega⟩
      simp only [Option.some.injEq] at h
      omega
    · rw [if_neg hd]
      exact ⟨⟨fun _ => ⟨d, rfl, hd⟩, fun _ => by decide⟩, fun h => absurd (by decide) h⟩
  | n + 1, i, d, h1, h2, h3 => by
    by_cases hi : i < s.size
    · rw [sepLF_eq hs, if_pos hi, bts_drop_cons hi, chAt_get]
      simp only [sepL]
      generalize ((s.get! i).toNat : Int) = c
      by_cases c1 : c = 95
      · rw [if_pos c1, if_pos c1]
        by_cases c2 : d = 48
        · rw [if_neg (by simp [c2]), if_neg (by simp [c2])]
          exact sepEnd_ok hs n (i + 1) 95 (by omega) (by omega) (fun _ => by omega)
        · rw [if_pos c2, if_pos c2]
          show ((i : Int) < 0 ↔ _) ∧ (¬ (i : Int) < 0 → 0 ≤ (i : Int))
          exact ⟨⟨fun h => by omega, fun ⟨d', h, _⟩ => by cases h⟩, fun h => by omega⟩
      · rw [if_neg c1, if_neg c1]
        by_cases c3 : isDecimalF c = true ∨ (x1 = 120 ∧ isHexF c = true)
        · rw [if_pos c3, if_pos (by simpa using c3)]
          exact sepEnd_ok hs n (i + 1) 48 (by omega) (by omega) (fun h => by cases h)
        · have c3' : ¬ (isDecimalF c = true ∨ decide (x1 = 120) = true ∧ isHexF c = true) := by simpa using c3
          rw [if_neg c3, if_neg c3']
          by_cases c4 : d = 95
          · have := h3 c4
            rw [if_pos c4, if_pos c4, i64_small (n := (i : Int) - 1) (by omega) (by omega)]
            show ((i : Int) - 1 < 0 ↔ _) ∧ (¬ (i : Int) - 1 < 0 → 0 ≤ (i : Int) - 1)
            exact ⟨⟨fun h => by omega, fun ⟨d', h, _⟩ => by cases h⟩, fun h => by omega⟩
          · rw [if_neg c4, if_neg c4]
            exact sepEnd_ok hs n (i + 1) 46 (by omega) (by omega) (fun h => by cases h)
    · exact sepEnd_ok hs 0 i d (by omega) h2 h3
def preL (c : Int) : Bool := decide (lowerF c = 120 ∨ lowerF c = 111 ∨ lowerF c = 98)
/-- The separators of a number's text. -/
def sepT : List Int → Option Int
  | 48 :: c :: t => if preL c = true then sepL (decide (lowerF c = 120)) 48 t else sepL false 46 (48 :: c :: t)
  | l => sepL false 46 l
theorem invalidSep_ok {s : ByteArray} (hs : s.size ≤ 100000) : (invalidSepF s < 0 ↔ sepGood (sepT (bts s))) ∧ (¬ invalidSepF s < 0 → 0 ≤ invalidSepF s) := by
  have k := fun x1 => sepEnd_ok (s := s) (x1 := x1) hs s.size 0 46 (by omega) (Nat.zero_le _) (fun h => by cases h)
  unfold invalidSepF
  by_cases h : 2 ≤ s.size ∧ (s.get! 0).toNat = 48
  · rw [if_pos h]
    have e0 := bts_drop_cons (s := s) (j := 0) (by omega)
    have e1 := bts_drop_cons (s := s) (j := 1) (by omega)
    rw [List.drop_zero] at e0
    rw [h.2] at e0
    have hc : chAt s 1 = ((s.get! 1).toNat : Int) := chAt_get (i := 1)
    have e : bts s = 48 :: ((s.get! 1).toNat : Int) :: (bts s).drop 2 := by rw [e0, e1]; rfl
    rw [e]
    simp only [sepT]
    rw [hc]
    generalize hcc : ((s.get! 1).toNat : Int) = c at *
    have hc256 : 0 ≤ c ∧ c < 256 := by have := (s.get! 1).toNat_lt; omega
    by_cases hp : lowerF c = 120 ∨ lowerF c = 111 ∨ lowerF c = 98
    · rw [if_pos hp, if_pos (by unfold preL; exact decide_eq_true hp)]
      exact sepEnd_ok hs s.size 2 48 (by omega) (by omega) (fun h => by cases h)
    · rw [if_neg hp, if_neg (by unfold preL; simp [hp])]
      have := k (lowerF c)
      rw [List.drop_zero, e, show decide (lowerF c = 120) = false by simp; omega] at this
      exact this
  · rw [if_neg h]
    have := k 32
    rw [List.drop_zero] at this
    have e : sepT (bts s) = sepL false 46 (bts s) := by
      have hl := bts_len s
      match hb : bts s with
      | [] => rfl
      | [c] =>
      unfold sepT
      split
      · rename_i heq; simp at heq
      · rfl
      | c :: c2 :: t =>
        by_cases hc : c = 48
        · exfalso
          apply h
          rw [hb] at hl
          simp only [List.length_cons] at hl
          refine ⟨by omega, ?_⟩
          have := bts_get (s := s) (j := 0) (by omega)
          rw [hb] at this
          simp only [List.getElem?_cons_zero, Option.some.injEq] at this
          omega
        · unfold sepT
          split
          · rename_i heq
            simp only [List.cons.injEq] at heq
            exact absurd heq.1 hc
          · rfl
    rw [e]
    exact this
end Sc
end Go.Proofs.YtogkcphobhhbdaaDoor

/- spec.allOf walked. -/
namespace Go.Proofs.YtogkcphobhhbdaaDoor
open Go Go.RowKit Go.Lib
namespace Sc
open Ev
set_option maxRecDepth 100000
/-- A byte is among others. -/
def inByte (b : ByteArray) (x : UInt8) : Bool := decide (0 ≤ Lib.indexByte b.data.toList x)
/-- All bytes from a place on are among others. -/
def allN (s b : ByteArray) : Nat → Nat → Bool
  | 0, _ => true
  | n + 1, i => if i < s.size then (if inByte b (s.get! i) = true then allN s b n (i + 1) else false) else true
/-- Known slots of a frame of 20. -/
structure SO (v0 v1 vi : Value) (a : Act) : Prop where
  defers : a.defers = []
  size : a.tmps.size = 20
  s0 : a.tmps[0]? = some v0
  s1 : a.tmps[1]? = some v1
  s5 : a.tmps[5]? = some vi
theorem SO.lit {v0 v1 vi : Value} {a : Act} (h : SO v0 v1 vi a) : ∃ x : Nat → Value, a = { tmps := #[v0, v1, x 2, x 3, x 4, vi, x 6, x 7, x 8, x 9, x 10, x 11, x 12, x 13, x 14, x 15, x 16, x 17, x 18, x 19], defers := [] } := by
  refine ⟨fun i => a.tmps.getD i undef, ?_⟩
  obtain ⟨t, d⟩ := a
  obtain ⟨h1, h2, k0, k1, k5⟩ := h
  simp only at h1 h2 k0 k1 k5
  subst h1
  have e0 : t.getD 0 undef = v0 := by rw [Array.getD_eq_getD_getElem?, k0]; rfl
  have e1 : t.getD 1 undef = v1 := by rw [Array.getD_eq_getD_getElem?, k1]; rfl
  have e5 : t.getD 5 undef = vi := by rw [Array.getD_eq_getD_getElem?, k5]; rfl
  have ht := tmpsN 20 t h2
  rw [← e0, ← e1, ← e5]
  exact congrArg (fun t => ({ tmps := t, defers := [] } : Act)) ht
theorem SO.of {v0 v1 vi : Value} (x : Nat → Value) : SO v0 v1 vi { tmps := #[v0, v1, x 2, x 3, x 4, vi, x 6, x 7, x 8, x 9, x 10, x 11, x 12, x 13, x 14, x 15, x 16, x 17, x 18, x 19], defers := [] } := ⟨rfl, rfl, rfl, rfl, rfl⟩
/-- allOf. -/
def allOfF (s b : ByteArray) : Bool := allN s b s.size 0 && !s.toList.isEmpty
end Sc
end Go.Proofs.YtogkcphobhhbdaaDoor

/- spec.valueOf walked. -/
namespace Go.Proofs.YtogkcphobhhbdaaDoor
open Go Go.RowKit Go.Lib
namespace Sc
open Ev
set_option maxRecDepth 100000
/-- Known slots of a frame of 30. -/
structure SV6 (v0 v1 va vi : Value) (a : Act) : Prop where
  defers : a.defers = []
  size : a.tmps.size = 30
  s0 : a.tmps[0]? = some v0
  s1 : a.tmps[1]? = some v1
  s5 : a.tmps[5]? = some va
  s6 : a.tmps[6]? = some vi
theorem SV6.lit {v0 v1 va vi : Value} {a : Act} (h : SV6 v0 v1 va vi a) : ∃ x : Nat → Value, a = { tmps := #[v0, v1, x 2, x 3, x 4, va, vi, x 7, x 8, x 9, x 10, x 11, x 12, x 13, x 14, x 15, x 16, x 17, x 18, x 19, x 20, x 21, x 22, x 23, x 24, x 25, x 26, x 27, x 28, x 29], defers := [] } := by
  refine ⟨fun i => a.tmps.getD i undef, ?_⟩
  obtain ⟨t, d⟩ := a
  obtain ⟨h1, h2, k0, k1, k5, k6⟩ := h
  simp only at h1 h2 k0 k1 k5 k6
  subst h1
  have e0 : t.getD 0 undef = v0 := by rw [Array.getD_eq_getD_getElem?, k0]; rfl
  have e1 : t.getD 1 undef = v1 := by rw [Array.getD_eq_getD_getElem?, k1]; rfl
  have e5 : t.getD 5 undef = va := by rw [Array.getD_eq_getD_getElem?, k5]; rfl
  have e6 : t.getD 6 undef = vi := by rw [Array.getD_eq_getD_getElem?, k6]; rfl
  have ht := tmpsN 30 t h2
  rw [← e0, ← e1, ← e5, ← e6]
  exact congrArg (fun t => ({ tmps := t, defers := [] } : Act)) ht
theorem SV6.of {v0 v1 va vi : Value} (x : Nat → Value) : SV6 v0 v1 va vi { tmps := #[v0, v1, x 2, x 3, x 4, va, vi, x 7, x 8, x 9, x 10, x 11, x 12, x 13, x 14, x 15, x 16, x 17, x 18, x 19, x 20, x 21, x 22, x 23, x 24, x 25, x 26, x 27, x 28, x 29], defers := [] } := ⟨rfl, rfl, rfl, rfl, rfl, rfl⟩
end Sc
end Go.Proofs.YtogkcphobhhbdaaDoor

/- spec.Escape walked: its tail. -/
namespace Go.Proofs.YtogkcphobhhbdaaDoor
open Go Go.RowKit Go.Lib
namespace Sc
open Ev
set_option maxRecDepth 100000
/-- Known slots of a frame of 99. -/
structure SX5 (v0 v1 vs vb vd : Value) (a : Act) : Prop where
  defers : a.defers = []
  size : a.tmps.size = 99
  s0 : a.tmps[0]? = some v0
  s1 : a.tmps[1]? = some v1
  s5 : a.tmps[5]? = some vs
  s6 : a.tmps[6]? = some vb
  s7 : a.tmps[7]? = some vd
theorem SX5.lit {v0 v1 vs vb vd : Value} {a : Act} (h : SX5 v0 v1 vs vb vd a) : ∃ x : Nat → Value, a = { tmps := #[v0, v1, x 2, x 3, x 4, vs, vb, vd, x 8, x 9, x 10, x 11, x 12, x 13, x 14, x 15, x 16, x 17, x 18, x 19, x 20, x 21, x 22, x 23, x 24, x 25, x 26, x 27, x 28, x 29, x 30, x 31, x 32, x 33, x 34, x 35, x 36, x 37, x 38, x 39, x 40, x 41, x 42, x 43, x 44, x 45, x 46, x 47, x 48, x 49, x 50, x 51, x 52, x 53, x 54, x 55, x 56, x 57, x 58, x 59, x 60, x 61, x 62, x 63, x 64, x 65, x 66, x 67, x 68, x 69, x 70, x 71, x 72, x 73, x 74, x 75, x 76, x 77, x 78, x 79, x 80, x 81, x 82, x 83, x 84, x 85, x 86, x 87, x 88, x 89, x 90, x 91, x 92, x 93, x 94, x 95, x 96, x 97, x 98], defers := [] } := by
  refine ⟨fun i => a.tmps.getD i undef, ?_⟩
  obtain ⟨t, d⟩ := a
  obtain ⟨h1, h2, k0, k1, k5, k6, k7⟩ := h
  simp only at h1 h2 k0 k1 k5 k6 k7
  subst h1
  have e0 : t.getD 0 undef = v0 := by rw [Array.getD_eq_getD_getElem?, k0]; rfl
  have e1 : t.getD 1 undef = v1 := by rw [Array.getD_eq_getD_getElem?, k1]; rfl
  have e5 : t.getD 5 undef = vs := by rw [Array.getD_eq_getD_getElem?, k5]; rfl
  have e6 : t.getD 6 undef = vb := by rw [Array.getD_eq_getD_getElem?, k6]; rfl
  have e7 : t.getD 7 undef = vd := by rw [Array.getD_eq_getD_getElem?, k7]; rfl
  have ht := tmpsN 99 t h2
  rw [← e0, ← e1, ← e5, ← e6, ← e7]
  exact congrArg (fun t => ({ tmps := t, defers := [] } : Act)) ht
theorem SX5.of {v0 v1 vs vb vd : Value} (x : Nat → Value) : SX5 v0 v1 vs vb vd { tmps := #[v0, v1, x 2, x 3, x 4, vs, vb, vd, x 8, x 9, x 10, x 11, x 12, x 13, x 14, x 15, x 16, x 17, x 18, x 19, x 20, x 21, x 22, x 23, x 24, x 25, x 26, x 27, x 28, x 29, x 30, x 31, x 32, x 33, x 34, x 35, x 36, x 37, x 38, x 39, x 40, x 41, x 42, x 43, x 44, x 45, x 46, x 47, x 48, x 49, x 50, x 51, x 52, x 53, x 54, x 55, x 56, x 57, x 58, x 59, x 60, x 61, x 62, x 63, x 64, x 65, x 66, x 67, x 68, x 69, x 70, x 71, x 72, x 73, x 74, x 75, x 76, x 77, x 78, x 79, x 80, x 81, x 82, x 83, x 84, x 85, x 86, x 87, x 88, x 89, x 90, x 91, x 92, x 93, x 94, x 95, x 96, x 97, x 98], defers := [] } := ⟨rfl, rfl, rfl, rfl, rfl, rfl, rfl⟩
end Sc
end Go.Proofs.YtogkcphobhhbdaaDoor

/- Plain: the specification's functions of numbers. -/
namespace Go.Proofs.YtogkcphobhhbdaaDoor
open Go Go.RowKit Go.Lib
namespace Sc
open Ev
set_option maxRecDepth 100000
def lowB : ByteArray := ⟨#[95]⟩
def low2 : ByteArray := ⟨#[95, 95]⟩
/-- run. -/
def runF (s d : ByteArray) : Bool := allOfF s (d ++ lowB) && (((s.get! 0).toNat != 95) && (((s.get! (s.size - 1)).toNat != 95) && decide (idxF s low2 < 0)))
/-! What they say of the bytes. -/
def memB (b : ByteArray) (x : Int) : Bool := inByte b (UInt8.ofNat x.toNat)
end Sc
end Go.Proofs.YtogkcphobhhbdaaDoor

/- spec.run, spec.cut, spec.isInt and spec.exponentOk walked. -/
namespace Go.Proofs.YtogkcphobhhbdaaDoor
open Go Go.RowKit Go.Lib
namespace Sc
open Ev
set_option maxRecDepth 100000
/-- Known slots of a frame of 28. -/
structure SCu (v0 v1 vi : Value) (a : Act) : Prop where
  defers : a.defers = []
  size : a.tmps.size = 28
  s0 : a.tmps[0]? = some v0
  s1 : a.tmps[1]? = some v1
  s7 : a.tmps[7]? = some vi
theorem SCu.lit {v0 v1 vi : Value} {a : Act} (h : SCu v0 v1 vi a) : ∃ x : Nat → Value, a = { tmps := #[v0, v1, x 2, x 3, x 4, x 5, x 6, vi, x 8, x 9, x 10, x 11, x 12, x 13, x 14, x 15, x 16, x 17, x 18, x 19, x 20, x 21, x 22, x 23, x 24, x 25, x 26, x 27], defers := [] } := by
  refine ⟨fun i => a.tmps.getD i undef, ?_⟩
  obtain ⟨t, d⟩ := a
  obtain ⟨h1, h2, k0, k1, k7⟩ := h
  simp only at h1 h2 k0 k1 k7
  subst h1
  have e0 : t.getD 0 undef = v0 := by rw [Array.getD_eq_getD_getElem?, k0]; rfl
  have e1 : t.getD 1 undef = v1 := by rw [Array.getD_eq_getD_getElem?, k1]; rfl
  have e7 : t.getD 7 undef = vi := by rw [Array.getD_eq_getD_getElem?, k7]; rfl
  have ht := tmpsN 28 t h2
  rw [← e0, ← e1, ← e7]
  exact congrArg (fun t => ({ tmps := t, defers := [] } : Act)) ht
theorem SCu.of {v0 v1 vi : Value} (x : Nat → Value) : SCu v0 v1 vi { tmps := #[v0, v1, x 2, x 3, x 4, x 5, x 6, vi, x 8, x 9, x 10, x 11, x 12, x 13, x 14, x 15, x 16, x 17, x 18, x 19, x 20, x 21, x 22, x 23, x 24, x 25, x 26, x 27], defers := [] } := ⟨rfl, rfl, rfl, rfl, rfl⟩
end Sc
end Go.Proofs.YtogkcphobhhbdaaDoor

/- spec.isInt and spec.exponentOk walked. -/
namespace Go.Proofs.YtogkcphobhhbdaaDoor
open Go Go.RowKit Go.Lib
namespace Sc
open Ev
set_option maxRecDepth 100000
/-- Known slots of a frame of 38. -/
structure SIi (v0 vd vr : Value) (a : Act) : Prop where
  defers : a.defers = []
  size : a.tmps.size = 38
  s0 : a.tmps[0]? = some v0
  s3 : a.tmps[3]? = some vd
  s4 : a.tmps[4]? = some vr
theorem SIi.lit {v0 vd vr : Value} {a : Act} (h : SIi v0 vd vr a) : ∃ x : Nat → Value, a = { tmps := #[v0, x 1, x 2, vd, vr, x 5, x 6, x 7, x 8, x 9, x 10, x 11, x 12, x 13, x 14, x 15, x 16, x 17, x 18, x 19, x 20, x 21, x 22, x 23, x 24, x 25, x 26, x 27, x 28, x 29, x 30, x 31, x 32, x 33, x 34, x 35, x 36, x 37], defers := [] } := by
  refine ⟨fun i => a.tmps.getD i undef, ?_⟩
  obtain ⟨t, d⟩ := a
  obtain ⟨h1, h2, k0, k3, k4⟩ := h
  simp only at h1 h2 k0 k3 k4
  subst h1
  have e0 : t.getD 0 undef = v0 := by rw [Array.getD_eq_getD_getElem?, k0]; rfl
  have e3 : t.getD 3 undef = vd := by rw [Array.getD_eq_getD_getElem?, k3]; rfl
  have e4 : t.getD 4 undef = vr := by rw [Array.getD_eq_getD_getElem?, k4]; rfl
  have ht := tmpsN 38 t h2
  rw [← e0, ← e3, ← e4]
  exact congrArg (fun t => ({ tmps := t, defers := [] } : Act)) ht
theorem SIi.of {v0 vd vr : Value} (x : Nat → Value) : SIi v0 vd vr { tmps := #[v0, x 1, x 2, vd, vr, x 5, x 6, x 7, x 8, x 9, x 10, x 11, x 12, x 13, x 14, x 15, x 16, x 17, x 18, x 19, x 20, x 21, x 22, x 23, x 24, x 25, x 26, x 27, x 28, x 29, x 30, x 31, x 32, x 33, x 34, x 35, x 36, x 37], defers := [] } := ⟨rfl, rfl, rfl, rfl, rfl⟩
end Sc
end Go.Proofs.YtogkcphobhhbdaaDoor

/- spec.isFloat and spec.KindOf walked. -/
namespace Go.Proofs.YtogkcphobhhbdaaDoor
open Go Go.RowKit Go.Lib
namespace Sc
open Ev
set_option maxRecDepth 100000
/-- Known slots of a frame of 117. -/
structure SF1 (v0 : Value) (a : Act) : Prop where
  defers : a.defers = []
  size : a.tmps.size = 117
  s0 : a.tmps[0]? = some v0
theorem SF1.lit {v0 : Value} {a : Act} (h : SF1 v0 a) : ∃ x : Nat → Value, a = { tmps := #[v0, x 1, x 2, x 3, x 4, x 5, x 6, x 7, x 8, x 9, x 10, x 11, x 12, x 13, x 14, x 15, x 16, x 17, x 18, x 19, x 20, x 21, x 22, x 23, x 24, x 25, x 26, x 27, x 28, x 29, x 30, x 31, x 32, x 33, x 34, x 35, x 36, x 37, x 38, x 39, x 40, x 41, x 42, x 43, x 44, x 45, x 46, x 47, x 48, x 49, x 50, x 51, x 52, x 53, x 54, x 55, x 56, x 57, x 58, x 59, x 60, x 61, x 62, x 63, x 64, x 65, x 66, x 67, x 68, x 69, x 70, x 71, x 72, x 73, x 74, x 75, x 76, x 77, x 78, x 79, x 80, x 81, x 82, x 83, x 84, x 85, x 86, x 87, x 88, x 89, x 90, x 91, x 92, x 93, x 94, x 95, x 96, x 97, x 98, x 99, x 100, x 101, x 102, x 103, x 104, x 105, x 106, x 107, x 108, x 109, x 110, x 111, x 112, x 113, x 114, x 115, x 116], defers := [] } := by
  refine ⟨fun i => a.tmps.getD i undef, ?_⟩
  obtain ⟨t, d⟩ := a
  obtain ⟨h1, h2, k0⟩ := h
  simp only at h1 h2 k0
  subst h1
  have e0 : t.getD 0 undef = v0 := by rw [Array.getD_eq_getD_getElem?, k0]; rfl
  have ht := tmpsN 117 t h2
  rw [← e0]
  exact congrArg (fun t => ({ tmps := t, defers := [] } : Act)) ht
theorem SF1.of {v0 : Value} (x : Nat → Value) : SF1 v0 { tmps := #[v0, x 1, x 2, x 3, x 4, x 5, x 6, x 7, x 8, x 9, x 10, x 11, x 12, x 13, x 14, x 15, x 16, x 17, x 18, x 19, x 20, x 21, x 22, x 23, x 24, x 25, x 26, x 27, x 28, x 29, x 30, x 31, x 32, x 33, x 34, x 35, x 36, x 37, x 38, x 39, x 40, x 41, x 42, x 43, x 44, x 45, x 46, x 47, x 48, x 49, x 50, x 51, x 52, x 53, x 54, x 55, x 56, x 57, x 58, x 59, x 60, x 61, x 62, x 63, x 64, x 65, x 66, x 67, x 68, x 69, x 70, x 71, x 72, x 73, x 74, x 75, x 76, x 77, x 78, x 79, x 80, x 81, x 82, x 83, x 84, x 85, x 86, x 87, x 88, x 89, x 90, x 91, x 92, x 93, x 94, x 95, x 96, x 97, x 98, x 99, x 100, x 101, x 102, x 103, x 104, x 105, x 106, x 107, x 108, x 109, x 110, x 111, x 112, x 113, x 114, x 115, x 116], defers := [] } := ⟨rfl, rfl, rfl⟩
/-- Known slots of a frame of 117. -/
structure SF2 (ve vk vw vr vp : Value) (a : Act) : Prop where
  defers : a.defers = []
  size : a.tmps.size = 117
  s4 : a.tmps[4]? = some ve
  s5 : a.tmps[5]? = some vk
  s6 : a.tmps[6]? = some vw
  s7 : a.tmps[7]? = some vr
  s8 : a.tmps[8]? = some vp
theorem SF2.lit {ve vk vw vr vp : Value} {a : Act} (h : SF2 ve vk vw vr vp a) : ∃ x : Nat → Value, a = { tmps := #[x 0, x 1, x 2, x 3, ve, vk, vw, vr, vp, x 9, x 10, x 11, x 12, x 13, x 14, x 15, x 16, x 17, x 18, x 19, x 20, x 21, x 22, x 23, x 24, x 25, x 26, x 27, x 28, x 29, x 30, x 31, x 32, x 33, x 34, x 35, x 36, x 37, x 38, x 39, x 40, x 41, x 42, x 43, x 44, x 45, x 46, x 47, x 48, x 49, x 50, x 51, x 52, x 53, x 54, x 55, x 56, x 57, x 58, x 59, x 60, x 61, x 62, x 63, x 64, x 65, x 66, x 67, x 68, x 69, x 70, x 71, x 72, x 73, x 74, x 75, x 76, x 77, x 78, x 79, x 80, x 81, x 82, x 83, x 84, x 85, x 86, x 87, x 88, x 89, x 90, x 91, x 92, x 93, x 94, x 95, x 96, x 97, x 98, x 99, x 100, x 101, x 102, x 103, x 104, x 105, x 106, x 107, x 108, x 109, x 110, x 111, x 112, x 113, x 114, x 115, x 116], defers := [] } := by
  refine ⟨fun i => a.tmps.getD i undef, ?_⟩
  obtain ⟨t, d⟩ := a
  obtain ⟨h1, h2, k4, k5, k6, k7, k8⟩ := h
  simp only at h1 h2 k4 k5 k6 k7 k8
  subst h1
  have e4 : t.getD 4 undef = ve := by rw [Array.getD_eq_getD_getElem?, k4]; rfl
  have e5 : t.getD 5 undef = vk := by rw [Array.getD_eq_getD_getElem?, k5]; rfl
  have e6 : t.getD 6 undef = vw := by rw [Array.getD_eq_getD_getElem?, k6]; rfl
  have e7 : t.getD 7 undef = vr := by rw [Array.getD_eq_getD_getElem?, k7]; rfl
  have e8 : t.getD 8 undef = vp := by rw [Array.getD_eq_getD_getElem?, k8]; rfl
  have ht := tmpsN 117 t h2
  rw [← e4, ← e5, ← e6, ← e7, ← e8]
  exact congrArg (fun t => ({ tmps := t, defers := [] } : Act)) ht
theorem SF2.of {ve vk vw vr vp : Value} (x : Nat → Value) : SF2 ve vk vw vr vp { tmps := #[x 0, x 1, x 2, x 3, ve, vk, vw, vr, vp, x 9, x 10, x 11, x 12, x 13, x 14, x 15, x 16, x 17, x 18, x 19, x 20, x 21, x 22, x 23, x 24, x 25, x 26, x 27, x 28, x 29, x 30, x 31, x 32, x 33, x 34, x 35, x 36, x 37, x 38, x 39, x 40, x 41, x 42, x 43, x 44, x 45, x 46, x 47, x 48, x 49, x 50, x 51, x 52, x 53, x 54, x 55, x 56, x 57, x 58, x 59, x 60, x 61, x 62, x 63, x 64, x 65, x 66, x 67, x 68, x 69, x 70, x 71, x 72, x 73, x 74, x 75, x 76, x 77, x 78, x 79, x 80, x 81, x 82, x 83, x 84, x 85, x 86, x 87, x 88, x 89, x 90, x 91, x 92, x 93, x 94, x 95, x 96, x 97, x 98, x 99, x 100, x 101, x 102, x 103, x 104, x 105, x 106, x 107, x 108, x 109, x 110, x 111, x 112, x 113, x 114, x 115, x 116], defers := [] } := ⟨rfl, rfl, rfl, rfl, rfl, rfl, rfl⟩
/-- Known slots of a frame of 117. -/
structure SF3 (vr vb : Value) (a : Act) : Prop where
  defers : a.defers = []
  size : a.tmps.size = 117
  s7 : a.tmps[7]? = some vr
  s9 : a.tmps[9]? = some vb
theorem SF3.lit {vr vb : Value} {a : Act} (h : SF3 vr vb a) : ∃ x : Nat → Value, a = { tmps := #[x 0, x 1, x 2, x 3, x 4, x 5, x 6, vr, x 8, vb, x 10, x 11, x 12, x 13, x 14, x 15, x 16, x 17, x 18, x 19, x 20, x 21, x 22, x 23, x 24, x 25, x 26, x 27, x 28, x 29, x 30, x 31, x 32, x 33, x 34, x 35, x 36, x 37, x 38, x 39, x 40, x 41, x 42, x 43, x 44, x 45, x 46, x 47, x 48, x 49, x 50, x 51, x 52, x 53, x 54, x 55, x 56, x 57, x 58, x 59, x 60, x 61, x 62, x 63, x 64, x 65, x 66, x 67, x 68, x 69, x 70, x 71, x 72, x 73, x 74, x 75, x 76, x 77, x 78, x 79, x 80, x 81, x 82, x 83, x 84, x 85, x 86, x 87, x 88, x 89, x 90, x 91, x 92, x 93, x 94, x 95, x 96, x 97, x 98, x 99, x 100, x 101, x 102, x 103, x 104, x 105, x 106, x 107, x 108, x 109, x 110, x 111, x 112, x 113, x 114, x 115, x 116], defers := [] } := by
  refine ⟨fun i => a.tmps.getD i undef, ?_⟩
  obtain ⟨t, d⟩ := a
  obtain ⟨h1, h2, k7, k9⟩ := h
  simp only at h1 h2 k7 k9
  subst h1
  have e7 : t.getD 7 undef = vr := by rw [Array.getD_eq_getD_getElem?, k7]; rfl
  have e9 : t.getD 9 undef = vb := by rw [Array.getD_eq_getD_getElem?, k9]; rfl
  have ht := tmpsN 117 t h2
  rw [← e7, ← e9]
  exact congrArg (fun t => ({ tmps := t, defers := [] } : Act)) ht
theorem SF3.of {vr vb : Value} (x : Nat → Value) : SF3 vr vb { tmps := #[x 0, x 1, x 2, x 3, x 4, x 5, x 6, vr, x 8, vb, x 10, x 11, x 12, x 13, x 14, x 15, x 16, x 17, x 18, x 19, x 20, x 21, x 22, x 23, x 24, x 25, x 26, x 27, x 28, x 29, x 30, x 31, x 32, x 33, x 34, x 35, x 36, x 37, x 38, x 39, x 40, x 41, x 42, x 43, x 44, x 45, x 46, x 47, x 48, x 49, x 50, x 51, x 52, x 53, x 54, x 55, x 56, x 57, x 58, x 59, x 60, x 61, x 62, x 63, x 64, x 65, x 66, x 67, x 68, x 69, x 70, x 71, x 72, x 73, x 74, x 75, x 76, x 77, x 78, x 79, x 80, x 81, x 82, x 83, x 84, x 85, x 86, x 87, x 88, x 89, x 90, x 91, x 92, x 93, x 94, x 95, x 96, x 97, x 98, x 99, x 100, x 101, x 102, x 103, x 104, x 105, x 106, x 107, x 108, x 109, x 110, x 111, x 112, x 113, x 114, x 115, x 116], defers := [] } := ⟨rfl, rfl, rfl, rfl⟩
/-- Known slots of a frame of 117. -/
structure SF4 (ve vk vw vr vp : Value) (a : Act) : Prop where
  defers : a.defers = []
  size : a.tmps.size = 117
  s11 : a.tmps[11]? = some ve
  s12 : a.tmps[12]? = some vk
  s13 : a.tmps[13]? = some vw
  s14 : a.tmps[14]? = some vr
  s15 : a.tmps[15]? = some vp
theorem SF4.lit {ve vk vw vr vp : Value} {a : Act} (h : SF4 ve vk vw vr vp a) : ∃ x : Nat → Value, a = { tmps := #[x 0, x 1, x 2, x 3, x 4, x 5, x 6, x 7, x 8, x 9, x 10, ve, vk, vw, vr, vp, x 16, x 17, x 18, x 19, x 20, x 21, x 22, x 23, x 24, x 25, x 26, x 27, x 28, x 29, x 30, x 31, x 32, x 33, x 34, x 35, x 36, x 37, x 38, x 39, x 40, x 41, x 42, x 43, x 44, x 45, x 46, x 47, x 48, x 49, x 50, x 51, x 52, x 53, x 54, x 55, x 56, x 57, x 58, x 59, x 60, x 61, x 62, x 63, x 64, x 65, x 66, x 67, x 68, x 69, x 70, x 71, x 72, x 73, x 74, x 75, x 76, x 77, x 78, x 79, x 80, x 81, x 82, x 83, x 84, x 85, x 86, x 87, x 88, x 89, x 90, x 91, x 92, x 93, x 94, x 95, x 96, x 97, x 98, x 99, x 100, x 101, x 102, x 103, x 104, x 105, x 106, x 107, x 108, x 109, x 110, x 111, x 112, x 113, x 114, x 115, x 116], defers := [] } := by
  refine ⟨fun i => a.tmps.getD i undef, ?_⟩
  obtain ⟨t, d⟩ := a
  obtain ⟨h1, h2, k11, k12, k13, k14, k15⟩ := h
  simp only at h1 h2 k11 k12 k13 k14 k15
  subst h1
  have e11 : t.getD 11 undef = ve := by rw [Array.getD_eq_getD_getElem?, k11]; rfl
  have e12 : t.getD 12 undef = vk := by rw [Array.getD_eq_getD_getElem?, k12]; rfl
  have e13 : t.getD 13 undef = vw := by rw [Array.getD_eq_getD_getElem?, k13]; rfl
  have e14 : t.getD 14 undef = vr := by rw [Array.getD_eq_getD_getElem?, k14]; rfl
  have e15 : t.getD 15 undef = vp := by rw [Array.getD_eq_getD_getElem?, k15]; rfl
  have ht := tmpsN 117 t h2
  rw [← e11, ← e12, ← e13, ← e14, ← e15]
  exact congrArg (fun t => ({ tmps := t, defers := [] } : Act)) ht
theorem SF4.of {ve vk vw vr vp : Value} (x : Nat → Value) : SF4 ve vk vw vr vp { tmps := #[x 0, x 1, x 2, x 3, x 4, x 5, x 6, x 7, x 8, x 9, x 10, ve, vk, vw, vr, vp, x 16, x 17, x 18, x 19, x 20, x 21, x 22, x 23, x 24, x 25, x 26, x 27, x 28, x 29, x 30, x 31, x 32, x 33, x 34, x 35, x 36, x 37, x 38, x 39, x 40, x 41, x 42, x 43, x 44, x 45, x 46, x 47, x 48, x 49, x 50, x 51, x 52, x 53, x 54, x 55, x 56, x 57, x 58, x 59, x 60, x 61, x 62, x 63, x 64, x 65, x 66, x 67, x 68, x 69, x 70, x 71, x 72, x 73, x 74, x 75, x 76, x 77, x 78, x 79, x 80, x 81, x 82, x 83, x 84, x 85, x 86, x 87, x 88, x 89, x 90, x 91, x 92, x 93, x 94, x 95, x 96, x 97, x 98, x 99, x 100, x 101, x 102, x 103, x 104, x 105, x 106, x 107, x 108, x 109, x 110, x 111, x 112, x 113, x 114, x 115, x 116], defers := [] } := ⟨rfl, rfl, rfl, rfl, rfl, rfl, rfl⟩
end Sc
end Go.Proofs.YtogkcphobhhbdaaDoor

/- Plain: what the specification calls a number, as a number's parts. -/
namespace Go.Proofs.YtogkcphobhhbdaaDoor
open Go Go.RowKit Go.Lib
namespace Sc
open Ev
set_option maxRecDepth 100000
/-- A number's body: its parts, good but for digits that are none of the base. -/
structure Body (l : List Int) (P : NumP) : Prop where
  wf : P.Wf
  im : P.im = false
  chars : P.chars = l
  radix : (P.pt && (decide (P.pre = 111) || decide (P.pre = 98))) = false
  dg : (decide (P.pre = 48) || hasDg P.d1 || hasDg P.d2) = true
  ex : exOk P.pre P.pt P.ex = true
  sep : sepGood (sepT l)
end Sc
end Go.Proofs.YtogkcphobhhbdaaDoor

/- Plain: the law of numbers. -/
namespace Go.Proofs.YtogkcphobhhbdaaDoor
open Go Go.RowKit Go.Lib
namespace Sc
open Ev
set_option maxRecDepth 100000
theorem digU_in {b : Int} {x : Int} (h0 : 0 ≤ x) (h1 : x ≤ 1114111) (h : digU b x = true) : 47 < x ∧ x < 128 := by
  unfold digU at h
  split at h
  · have := decU_in h; omega
  · have := hexU_in h0 h1 h; omega
theorem exChars_in {ex : NumE} (h : ExWf ex) : ∀ x ∈ exChars ex, 0 < x ∧ x < 128 := by
  cases ex with
  | none => exact fun x hx => absurd hx List.not_mem_nil
  | some t =>
    obtain ⟨e, sg, ds⟩ := t
    obtain ⟨w1, w2, w3⟩ := h
    intro x hx
    have hx : x ∈ e :: (sg ++ ds) := hx
    rcases List.mem_cons.1 hx with rfl | hx
    · omega
    · rcases List.mem_append.1 hx with hx | hx
      · rcases w2 with rfl | rfl | rfl
        · cases hx
        · simp only [List.mem_singleton] at hx; omega
        · simp only [List.mem_singleton] at hx; omega
      · have := decU_in (w3 x hx); omega
theorem tail_in {base : Int} {pt im : Bool} {d2 : List Int} {ex : NumE} (h2 : ∀ x ∈ d2, digU base x = true) (hx : ExWf ex) (hin : ∀ x ∈ d2, 0 ≤ x ∧ x ≤ 1114111) : ∀ x ∈ ptChars pt ++ (d2 ++ (exChars ex ++ imChars im)), 0 < x ∧ x < 128 := by
  intro x hx'
  rcases List.mem_append.1 hx' with hx' | hx'
  · cases pt with
    | true => have hx' : x ∈ [(46 : Int)] := hx'; simp only [List.mem_singleton] at hx'; omega
    | false => exact absurd hx' List.not_mem_nil
  · rcases List.mem_append.1 hx' with hx' | hx'
    · have := digU_in (hin x hx').1 (hin x hx').2 (h2 x hx'); omega
    · rcases List.mem_append.1 hx' with hx' | hx'
      · exact exChars_in hx x hx'
      · cases im with
        | true => have hx' : x ∈ [(105 : Int)] := hx'; simp only [List.mem_singleton] at hx'; omega
        | false => exact absurd hx' List.not_mem_nil
theorem NumP.Wf.ascii {P : NumP} (h : P.Wf) (hin : ∀ x ∈ P.chars, 0 ≤ x ∧ x < 256) : ∀ x ∈ P.chars, 0 < x ∧ x < 128 := by
  intro x hx
  unfold NumP.chars at hx hin
  rcases List.mem_append.1 hx with hx | hx
  · unfold NumP.head at hx
    rcases h.pre with ⟨h0, _⟩ | h0 | ⟨h0, hp⟩ | ⟨h0, hp⟩ | ⟨h0, hp⟩
    · rw [if_pos h0] at hx; cases hx
    · rw [if_neg (by omega), if_pos h0] at hx; simp only [List.mem_singleton] at hx; omega
    all_goals
      rw [if_neg (by omega), if_neg (by omega)] at hx
      simp only [List.mem_cons, List.not_mem_nil, or_false] at hx
      omega
  · rcases List.mem_append.1 hx with hx | hx
    · have hi := hin x (by simp [hx])
      have := digU_in hi.1 (by omega) (h.d1 x hx); omega
    · exact tail_in h.d2 h.ex (fun y hy => by
        have := hin y (by unfold NumP.tail; simp [hy])
        omega) x hx
theorem byt_sub {T s : ByteArray} {q : Nat} (h : Sub T q s) : Byt T q (bts s) := by
  have hl := h.le
  refine ⟨by rw [bts_len]; exact hl, fun j x hj => ?_⟩
  have hlt : j < s.size := by have := (List.getElem?_eq_some_iff.1 hj).1; rw [bts_len] at this; exact this
  rw [bts_get hlt] at hj
  rw [h.get j hlt]
  exact Option.some.inj hj
theorem cl_byt {T : ByteArray} : ∀ {l : List Int} {k : Nat}, Byt T k l → (∀ x ∈ l, 0 < x ∧ x < 128) → Cl T k l (k + l.length)
  | [], k, _, _ => .nil
  | x :: l, k, h, ha => by
    have hx := ha x (by simp)
    have := cl_byt h.tail (fun y hy => ha y (List.mem_cons_of_mem _ hy))
    rw [List.length_cons, show k + (l.length + 1) = k + 1 + l.length by omega]
    exact .cons (h.chAt hx.1 hx.2) this
theorem cl_sub {T s : ByteArray} {q : Nat} (h : Sub T q s) (ha : ∀ x ∈ bts s, 0 < x ∧ x < 128) : Cl T q (bts s) (q + s.size) := by
  have := cl_byt (byt_sub h) ha
  rw [bts_len] at this
  exact this
theorem sub_extract {T s : ByteArray} {q : Nat} (h : Sub T q s) : T.extract q (q + s.size) = s := by
  have hl := h.le
  refine bytes_ext (by rw [extract_size _ _ _ hl]; omega) (fun j hj => ?_)
  rw [extract_size _ _ _ hl] at hj
  rw [extract_get _ _ _ _ hl hj]
  exact h.get j (by omega)
theorem sw_dig {src : ByteArray} {nl : Bool} {n : St} (h0 : 48 ≤ n.ch) (h1 : n.ch ≤ 57) : finG src nl ((swT src nl n).get fin0) = (numberF src false n, [.int .i64 (numS src false n).inv]) := by
  have : n.ch = 48 ∨ n.ch = 49 ∨ n.ch = 50 ∨ n.ch = 51 ∨ n.ch = 52 ∨ n.ch = 53 ∨ n.ch = 54 ∨ n.ch = 55 ∨ n.ch = 56 ∨ n.ch = 57 := by omega
  rcases this with h | h | h | h | h | h | h | h | h | h <;> simp [swT, Tree.get, swNum, h, finG]
/-- A pass at a number: what it comes to. -/
structure NumR (src : ByteArray) (n : St) (q q2 : Nat) (ok : Bool) (kind : Int) (s : St) : Prop where
  std : Std src q2 s
  bad : s.bad = !ok
  good : ok = true → s.notes = n.notes
  told : ok = false → n.notes.length < s.notes.length
  lit : s.lit = src.extract q q2
  kind : s.kind = kind
  tok : s.tok = 3
  nl : s.nlsemi = true
  mode : s.mode = n.mode
  lc : s.line = n.line ∧ s.col = n.col
theorem NumTo.res {src : ByteArray} {n : St} {q q2 : Nat} {ok : Bool} {kind : Int} {t : NumS} (h : NumTo src n q q2 ok kind t) : NumR src n q q2 ok kind (numRes t) :=
  ⟨h.std.same rfl rfl rfl rfl, by show (!t.ok) = _; rw [h.ok], fun hk => h.good (by rw [h.ok]; exact hk), fun hk => h.bad (by rw [h.ok]; exact hk), h.lit, h.kind, h.tok, h.nl, h.mode, h.lc⟩
theorem num_pass {src : ByteArray} {nl : Bool} {p q q2 : Nat} {cs : List Int} {st : St} {P : NumP} (hsz : src.size ≤ 2048) (hp0 : Pos0 src st) (hg : Go src p st) (hp : p ≤ src.size) (h : Cl src p cs q) (hb : ∀ x ∈ cs, cBlank nl x = true)
    (hw : P.Wf) (hc : Cl src q P.chars q2) (he : NumEnd src q2 P.ex P.im) : ∃ n s, (passes src nl st).1 = s ∧ Here src q st n ∧ NumR src n q q2 (P.ok (src.extract q q2)) P.kind s := by
  obtain ⟨c, t, hct, hc0, hc1⟩ : ∃ c t, P.chars = c :: t ∧ 48 ≤ c ∧ c ≤ 57 := by
    unfold NumP.chars NumP.head
    rcases hw.pre with ⟨h0, c, t, hd, g1, g2⟩ | h0 | ⟨h0, hp⟩ | ⟨h0, hp⟩ | ⟨h0, hp⟩
    · rw [if_pos h0, hd]; exact ⟨c, _, rfl, by omega, g2⟩
    all_goals (rw [h0]; exact ⟨48, _, rfl, by decide, by decide⟩)
  have hk : ∃ w, ChAt src q c w := by
    rw [hct] at hc
    cases hc with
    | cons k1 k2 => exact ⟨_, k1⟩
  obtain ⟨w, hk⟩ := hk
  have hblank : cBlank nl c = false := by
    unfold cBlank
    simp
    omega
  obtain ⟨n, hn, hoff, e⟩ := pass_off hsz hg hp h hb (.inl ⟨_, _, hk⟩) (fun r' w' hc' => by rw [(hc'.uniq hk).1]; exact hblank)
  have hch : n.ch = c := (hn.std.of hk).1
  have hlet : isLetterF n.ch = false := by
    rw [hch]
    have : c = 48 ∨ c = 49 ∨ c = 50 ∨ c = 51 ∨ c = 52 ∨ c = 53 ∨ c = 54 ∨ c = 55 ∨ c = 56 ∨ c = 57 := by omega
    rcases this with rfl | rfl | rfl | rfl | rfl | rfl | rfl | rfl | rfl | rfl <;> decide +kernel
  have R := num_run hw ⟨hn.std, hoff⟩ hn.b hc he
  refine ⟨n, numberF src false n, ?_, hn, R.res⟩
  rw [passes_step hp0 hsz, e, hd_sw hlet (by omega), sw_dig (by omega) (by omega)]
/-- At the end of the text no number goes on. -/
theorem numEnd_end (src : ByteArray) (ex : NumE) (im : Bool) : NumEnd src src.size ex im :=
  ⟨.inr rfl, fun r w h => by have := h.lt; omega, fun _ _ _ r w h => by have := h.lt; omega⟩
/-- A text that is one number. -/
theorem num_one {s : ByteArray} {n x : St} {k : Int} (hs : s.size ≤ 2048) (e : (nextF s (stI 0)).1 = x) (hn : Here s 0 (stI 0) n) (R : NumR s n 0 s.size true k x) (h0 : 0 ≤ k) (h9 : k ≤ 9) : LikeAll (Sc.toks s 0) (closedF [litW s k] (litW s k)) ∧ (last s 0).notes = [] := by
  have hlit : x.lit = s := by rw [R.lit]; exact ByteArray.extract_zero_size
  obtain ⟨s2, s3, t1, t2, t3, t4, t5⟩ := one_tok hs e R.std R.nl (by rw [R.tok]; decide) (by rw [R.good rfl]; exact hn.notes)
  have hO : One s x := ⟨⟨s2, s3, t1, t2, t3, t4⟩, t5⟩
  have hL := like_lit R.tok R.kind (by rw [R.bad]; rfl) h0 h9
  rw [hlit] at hL
  exact ⟨hO.like hL (ends_lit _ _), t5⟩
theorem kind_in (pt : Bool) (ex : NumE) (im : Bool) : 0 ≤ numKind pt ex im ∧ numKind pt ex im ≤ 2 := by
  unfold numKind
  split
  · decide
  · split <;> decide
theorem num_text {s : ByteArray} (hs : s.size ≤ 2048) {P : NumP} (hw : P.Wf) (hc : P.chars = bts s) (hok : P.ok s = true) : LikeAll (Sc.toks s 0) (closedF [litW s P.kind] (litW s P.kind)) ∧ (last s 0).notes = [] := by
  have hcl : Cl s 0 P.chars s.size := by
    have := cl_sub (sub_self s) (by rw [← hc]; exact hw.ascii (by rw [hc]; exact bts_in s))
    rw [Nat.zero_add, ← hc] at this
    exact this
  obtain ⟨n, x, g1, g2, g3⟩ := num_pass (nl := false) hs (stI_pos s 0) (stI_go s 0) (Nat.zero_le _) .nil (fun x hx => absurd hx List.not_mem_nil) hw hcl (numEnd_end s _ _)
  rw [ByteArray.extract_zero_size, hok] at g3
  have hk := kind_in P.pt P.ex P.im
  exact num_one hs (by rw [nextF_passes s (stI 0)]; exact g1) g2 g3 hk.1 (by show numKind _ _ _ ≤ 9; omega)
/-- Good separators. -/
theorem sep_neg {s : ByteArray} (hs : s.size ≤ 2048) (h : sepGood (sepT (bts s))) (b : Bool) : (b && decide (0 ≤ invalidSepF s)) = false := by
  have := (invalidSep_ok (s := s) (by omega)).1.2 h
  rw [decide_eq_false (by omega), Bool.and_false]
theorem Body.ok {s : ByteArray} {P : NumP} (B : Body (bts s) P) (hs : s.size ≤ 2048) (hbad : P.kind = 0 → P.base ≤ 10 → badDg (48 + P.base) P.d1 = false) : P.ok s = true := by
  unfold NumP.ok
  rw [B.radix, B.dg, B.ex, sep_neg hs B.sep]
  by_cases hk : P.kind = 0
  · by_cases hb : P.base ≤ 10
    · rw [hbad hk hb]; simp
    · rw [decide_eq_false hb]; simp
  · rw [decide_eq_false hk]; simp
end Sc
end Go.Proofs.YtogkcphobhhbdaaDoor

/- Plain: imaginary numbers, and what is no number. -/
namespace Go.Proofs.YtogkcphobhhbdaaDoor
open Go Go.RowKit Go.Lib
namespace Sc
open Ev
set_option maxRecDepth 100000
theorem bts_one (b : UInt8) : bts ⟨#[b]⟩ = [((b.toNat : Nat) : Int)] := rfl
end Sc
end Go.Proofs.YtogkcphobhhbdaaDoor

/- FnImaginary walked: true at every number. -/
namespace Go.Proofs.YtogkcphobhhbdaaDoor
open Go Go.RowKit Go.Lib
namespace Sc
open Ev
set_option maxRecDepth 100000
/-- Known slots of a frame of 47. -/
structure SIm (v0 vd vm : Value) (a : Act) : Prop where
  defers : a.defers = []
  size : a.tmps.size = 47
  s0 : a.tmps[0]? = some v0
  s3 : a.tmps[3]? = some vd
  s4 : a.tmps[4]? = some vm
theorem SIm.lit {v0 vd vm : Value} {a : Act} (h : SIm v0 vd vm a) : ∃ x : Nat → Value, a = { tmps := #[v0, x 1, x 2, vd, vm, x 5, x 6, x 7, x 8, x 9, x 10, x 11, x 12, x 13, x 14, x 15, x 16, x 17, x 18, x 19, x 20, x 21, x 22, x 23, x 24, x 25, x 26, x 27, x 28, x 29, x 30, x 31, x 32, x 33, x 34, x 35, x 36, x 37, x 38, x 39, x 40, x 41, x 42, x 43, x 44, x 45, x 46], defers := [] } := by
  refine ⟨fun i => a.tmps.getD i undef, ?_⟩
  obtain ⟨t, d⟩ := a
  obtain ⟨h1, h2, k0, k3, k4⟩ := h
  simp only at h1 h2 k0 k3 k4
  subst h1
  have e0 : t.getD 0 undef = v0 := by rw [Array.getD_eq_getD_getElem?, k0]; rfl
  have e3 : t.getD 3 undef = vd := by rw [Array.getD_eq_getD_getElem?, k3]; rfl
  have e4 : t.getD 4 undef = vm := by rw [Array.getD_eq_getD_getElem?, k4]; rfl
  have ht := tmpsN 47 t h2
  rw [← e0, ← e3, ← e4]
  exact congrArg (fun t => ({ tmps := t, defers := [] } : Act)) ht
theorem SIm.of {v0 vd vm : Value} (x : Nat → Value) : SIm v0 vd vm { tmps := #[v0, x 1, x 2, vd, vm, x 5, x 6, x 7, x 8, x 9, x 10, x 11, x 12, x 13, x 14, x 15, x 16, x 17, x 18, x 19, x 20, x 21, x 22, x 23, x 24, x 25, x 26, x 27, x 28, x 29, x 30, x 31, x 32, x 33, x 34, x 35, x 36, x 37, x 38, x 39, x 40, x 41, x 42, x 43, x 44, x 45, x 46], defers := [] } := ⟨rfl, rfl, rfl, rfl, rfl⟩
end Sc
end Go.Proofs.YtogkcphobhhbdaaDoor

/- spec.isLetter, spec.IsKeyword and spec.IsName walked. -/
namespace Go.Proofs.YtogkcphobhhbdaaDoor
open Go Go.RowKit Go.Lib
namespace Sc
open Ev
set_option maxRecDepth 100000
/-- Known slots of a frame of 34. -/
structure SNm (v0 vi : Value) (a : Act) : Prop where
  defers : a.defers = []
  size : a.tmps.size = 34
  s0 : a.tmps[0]? = some v0
  s6 : a.tmps[6]? = some vi
theorem SNm.lit {v0 vi : Value} {a : Act} (h : SNm v0 vi a) : ∃ x : Nat → Value, a = { tmps := #[v0, x 1, x 2, x 3, x 4, x 5, vi, x 7, x 8, x 9, x 10, x 11, x 12, x 13, x 14, x 15, x 16, x 17, x 18, x 19, x 20, x 21, x 22, x 23, x 24, x 25, x 26, x 27, x 28, x 29, x 30, x 31, x 32, x 33], defers := [] } := by
  refine ⟨fun i => a.tmps.getD i undef, ?_⟩
  obtain ⟨t, d⟩ := a
  obtain ⟨h1, h2, k0, k6⟩ := h
  simp only at h1 h2 k0 k6
  subst h1
  have e0 : t.getD 0 undef = v0 := by rw [Array.getD_eq_getD_getElem?, k0]; rfl
  have e6 : t.getD 6 undef = vi := by rw [Array.getD_eq_getD_getElem?, k6]; rfl
  have ht := tmpsN 34 t h2
  rw [← e0, ← e6]
  exact congrArg (fun t => ({ tmps := t, defers := [] } : Act)) ht
theorem SNm.of {v0 vi : Value} (x : Nat → Value) : SNm v0 vi { tmps := #[v0, x 1, x 2, x 3, x 4, x 5, vi, x 7, x 8, x 9, x 10, x 11, x 12, x 13, x 14, x 15, x 16, x 17, x 18, x 19, x 20, x 21, x 22, x 23, x 24, x 25, x 26, x 27, x 28, x 29, x 30, x 31, x 32, x 33], defers := [] } := ⟨rfl, rfl, rfl, rfl⟩
end Sc
end Go.Proofs.YtogkcphobhhbdaaDoor

/- spec.Words walked. -/
namespace Go.Proofs.YtogkcphobhhbdaaDoor
open Go Go.RowKit Go.Lib
namespace Sc
open Ev
set_option maxRecDepth 100000
/-- A row of texts. -/
def strs (l : List ByteArray) : List Value := l.map fun s => .string s
/-- Known slots of a frame of 32. -/
structure SWd (v0 vo vf vi : Value) (a : Act) : Prop where
  defers : a.defers = []
  size : a.tmps.size = 32
  s0 : a.tmps[0]? = some v0
  s3 : a.tmps[3]? = some vo
  s4 : a.tmps[4]? = some vf
  s5 : a.tmps[5]? = some vi
theorem SWd.lit {v0 vo vf vi : Value} {a : Act} (h : SWd v0 vo vf vi a) : ∃ x : Nat → Value, a = { tmps := #[v0, x 1, x 2, vo, vf, vi, x 6, x 7, x 8, x 9, x 10, x 11, x 12, x 13, x 14, x 15, x 16, x 17, x 18, x 19, x 20, x 21, x 22, x 23, x 24, x 25, x 26, x 27, x 28, x 29, x 30, x 31], defers := [] } := by
  refine ⟨fun i => a.tmps.getD i undef, ?_⟩
  obtain ⟨t, d⟩ := a
  obtain ⟨h1, h2, k0, k3, k4, k5⟩ := h
  simp only at h1 h2 k0 k3 k4 k5
  subst h1
  have e0 : t.getD 0 undef = v0 := by rw [Array.getD_eq_getD_getElem?, k0]; rfl
  have e3 : t.getD 3 undef = vo := by rw [Array.getD_eq_getD_getElem?, k3]; rfl
  have e4 : t.getD 4 undef = vf := by rw [Array.getD_eq_getD_getElem?, k4]; rfl
  have e5 : t.getD 5 undef = vi := by rw [Array.getD_eq_getD_getElem?, k5]; rfl
  have ht := tmpsN 32 t h2
  rw [← e0, ← e3, ← e4, ← e5]
  exact congrArg (fun t => ({ tmps := t, defers := [] } : Act)) ht
theorem SWd.of {v0 vo vf vi : Value} (x : Nat → Value) : SWd v0 vo vf vi { tmps := #[v0, x 1, x 2, vo, vf, vi, x 6, x 7, x 8, x 9, x 10, x 11, x 12, x 13, x 14, x 15, x 16, x 17, x 18, x 19, x 20, x 21, x 22, x 23, x 24, x 25, x 26, x 27, x 28, x 29, x 30, x 31], defers := [] } := ⟨rfl, rfl, rfl, rfl, rfl, rfl⟩
end Sc
end Go.Proofs.YtogkcphobhhbdaaDoor

/- spec.Munched walked. -/
namespace Go.Proofs.YtogkcphobhhbdaaDoor
open Go Go.RowKit Go.Lib
namespace Sc
open Ev
set_option maxRecDepth 100000
theorem strs_get {l : List ByteArray} {i : Nat} {x : ByteArray} (h : l[i]? = some x) : (strs l)[i]? = some (.string x) := by
  unfold strs
  rw [List.getElem?_map, h]; rfl
/-- Known slots of a frame of 47. -/
structure SMo (v0 vo : Value) (a : Act) : Prop where
  defers : a.defers = []
  size : a.tmps.size = 47
  s0 : a.tmps[0]? = some v0
  s4 : a.tmps[4]? = some vo
theorem SMo.lit {v0 vo : Value} {a : Act} (h : SMo v0 vo a) : ∃ x : Nat → Value, a = { tmps := #[v0, x 1, x 2, x 3, vo, x 5, x 6, x 7, x 8, x 9, x 10, x 11, x 12, x 13, x 14, x 15, x 16, x 17, x 18, x 19, x 20, x 21, x 22, x 23, x 24, x 25, x 26, x 27, x 28, x 29, x 30, x 31, x 32, x 33, x 34, x 35, x 36, x 37, x 38, x 39, x 40, x 41, x 42, x 43, x 44, x 45, x 46], defers := [] } := by
  refine ⟨fun i => a.tmps.getD i undef, ?_⟩
  obtain ⟨t, d⟩ := a
  obtain ⟨h1, h2, k0, k4⟩ := h
  simp only at h1 h2 k0 k4
  subst h1
  have e0 : t.getD 0 undef = v0 := by rw [Array.getD_eq_getD_getElem?, k0]; rfl
  have e4 : t.getD 4 undef = vo := by rw [Array.getD_eq_getD_getElem?, k4]; rfl
  have ht := tmpsN 47 t h2
  rw [← e0, ← e4]
  exact congrArg (fun t => ({ tmps := t, defers := [] } : Act)) ht
theorem SMo.of {v0 vo : Value} (x : Nat → Value) : SMo v0 vo { tmps := #[v0, x 1, x 2, x 3, vo, x 5, x 6, x 7, x 8, x 9, x 10, x 11, x 12, x 13, x 14, x 15, x 16, x 17, x 18, x 19, x 20, x 21, x 22, x 23, x 24, x 25, x 26, x 27, x 28, x 29, x 30, x 31, x 32, x 33, x 34, x 35, x 36, x 37, x 38, x 39, x 40, x 41, x 42, x 43, x 44, x 45, x 46], defers := [] } := ⟨rfl, rfl, rfl, rfl⟩
/-- Known slots of a frame of 47. -/
structure SMi (v0 vo vb vr vn vj : Value) (a : Act) : Prop where
  defers : a.defers = []
  size : a.tmps.size = 47
  s0 : a.tmps[0]? = some v0
  s4 : a.tmps[4]? = some vo
  s5 : a.tmps[5]? = some vb
  s18 : a.tmps[18]? = some vr
  s19 : a.tmps[19]? = some vn
  s20 : a.tmps[20]? = some vj
theorem SMi.lit {v0 vo vb vr vn vj : Value} {a : Act} (h : SMi v0 vo vb vr vn vj a) : ∃ x : Nat → Value, a = { tmps := #[v0, x 1, x 2, x 3, vo, vb, x 6, x 7, x 8, x 9, x 10, x 11, x 12, x 13, x 14, x 15, x 16, x 17, vr, vn, vj, x 21, x 22, x 23, x 24, x 25, x 26, x 27, x 28, x 29, x 30, x 31, x 32, x 33, x 34, x 35, x 36, x 37, x 38, x 39, x 40, x 41, x 42, x 43, x 44, x 45, x 46], defers := [] } := by
  refine ⟨fun i => a.tmps.getD i undef, ?_⟩
  obtain ⟨t, d⟩ := a
  obtain ⟨h1, h2, k0, k4, k5, k18, k19, k20⟩ := h
  simp only at h1 h2 k0 k4 k5 k18 k19 k20
  subst h1
  have e0 : t.getD 0 undef = v0 := by rw [Array.getD_eq_getD_getElem?, k0]; rfl
  have e4 : t.getD 4 undef = vo := by rw [Array.getD_eq_getD_getElem?, k4]; rfl
  have e5 : t.getD 5 undef = vb := by rw [Array.getD_eq_getD_getElem?, k5]; rfl
  have e18 : t.getD 18 undef = vr := by rw [Array.getD_eq_getD_getElem?, k18]; rfl
  have e19 : t.getD 19 undef = vn := by rw [Array.getD_eq_getD_getElem?, k19]; rfl
  have e20 : t.getD 20 undef = vj := by rw [Array.getD_eq_getD_getElem?, k20]; rfl
  have ht := tmpsN 47 t h2
  rw [← e0, ← e4, ← e5, ← e18, ← e19, ← e20]
  exact congrArg (fun t => ({ tmps := t, defers := [] } : Act)) ht
theorem SMi.of {v0 vo vb vr vn vj : Value} (x : Nat → Value) : SMi v0 vo vb vr vn vj { tmps := #[v0, x 1, x 2, x 3, vo, vb, x 6, x 7, x 8, x 9, x 10, x 11, x 12, x 13, x 14, x 15, x 16, x 17, vr, vn, vj, x 21, x 22, x 23, x 24, x 25, x 26, x 27, x 28, x 29, x 30, x 31, x 32, x 33, x 34, x 35, x 36, x 37, x 38, x 39, x 40, x 41, x 42, x 43, x 44, x 45, x 46], defers := [] } := ⟨rfl, rfl, rfl, rfl, rfl, rfl, rfl, rfl⟩
end Sc
end Go.Proofs.YtogkcphobhhbdaaDoor

/- laws.FnBadNumber walked. -/
namespace Go.Proofs.YtogkcphobhhbdaaDoor
open Go Go.RowKit Go.Lib
namespace Sc
open Ev
set_option maxRecDepth 100000
/-- Known slots of a frame of 98. -/
structure SBl (v0 v1 vd vk : Value) (a : Act) : Prop where
  defers : a.defers = []
  size : a.tmps.size = 98
  s0 : a.tmps[0]? = some v0
  s1 : a.tmps[1]? = some v1
  s5 : a.tmps[5]? = some vd
  s6 : a.tmps[6]? = some vk
theorem SBl.lit {v0 v1 vd vk : Value} {a : Act} (h : SBl v0 v1 vd vk a) : ∃ x : Nat → Value, a = { tmps := #[v0, v1, x 2, x 3, x 4, vd, vk, x 7, x 8, x 9, x 10, x 11, x 12, x 13, x 14, x 15, x 16, x 17, x 18, x 19, x 20, x 21, x 22, x 23, x 24, x 25, x 26, x 27, x 28, x 29, x 30, x 31, x 32, x 33, x 34, x 35, x 36, x 37, x 38, x 39, x 40, x 41, x 42, x 43, x 44, x 45, x 46, x 47, x 48, x 49, x 50, x 51, x 52, x 53, x 54, x 55, x 56, x 57, x 58, x 59, x 60, x 61, x 62, x 63, x 64, x 65, x 66, x 67, x 68, x 69, x 70, x 71, x 72, x 73, x 74, x 75, x 76, x 77, x 78, x 79, x 80, x 81, x 82, x 83, x 84, x 85, x 86, x 87, x 88, x 89, x 90, x 91, x 92, x 93, x 94, x 95, x 96, x 97], defers := [] } := by
  refine ⟨fun i => a.tmps.getD i undef, ?_⟩
  obtain ⟨t, d⟩ := a
  obtain ⟨h1, h2, k0, k1, k5, k6⟩ := h
  simp only at h1 h2 k0 k1 k5 k6
  subst h1
  have e0 : t.getD 0 undef = v0 := by rw [Array.getD_eq_getD_getElem?, k0]; rfl
  have e1 : t.getD 1 undef = v1 := by rw [Array.getD_eq_getD_getElem?, k1]; rfl
  have e5 : t.getD 5 undef = vd := by rw [Array.getD_eq_getD_getElem?, k5]; rfl
  have e6 : t.getD 6 undef = vk := by rw [Array.getD_eq_getD_getElem?, k6]; rfl
  have ht := tmpsN 98 t h2
  rw [← e0, ← e1, ← e5, ← e6]
  exact congrArg (fun t => ({ tmps := t, defers := [] } : Act)) ht
theorem SBl.of {v0 v1 vd vk : Value} (x : Nat → Value) : SBl v0 v1 vd vk { tmps := #[v0, v1, x 2, x 3, x 4, vd, vk, x 7, x 8, x 9, x 10, x 11, x 12, x 13, x 14, x 15, x 16, x 17, x 18, x 19, x 20, x 21, x 22, x 23, x 24, x 25, x 26, x 27, x 28, x 29, x 30, x 31, x 32, x 33, x 34, x 35, x 36, x 37, x 38, x 39, x 40, x 41, x 42, x 43, x 44, x 45, x 46, x 47, x 48, x 49, x 50, x 51, x 52, x 53, x 54, x 55, x 56, x 57, x 58, x 59, x 60, x 61, x 62, x 63, x 64, x 65, x 66, x 67, x 68, x 69, x 70, x 71, x 72, x 73, x 74, x 75, x 76, x 77, x 78, x 79, x 80, x 81, x 82, x 83, x 84, x 85, x 86, x 87, x 88, x 89, x 90, x 91, x 92, x 93, x 94, x 95, x 96, x 97], defers := [] } := ⟨rfl, rfl, rfl, rfl, rfl, rfl⟩
noncomputable abbrev fbBody : Code := bodyOf Tryd.f14
noncomputable abbrev fbP (n : Nat) : Code := fstC (cutTail n fbBody)
noncomputable abbrev fbLoop : Code := loopOf (blkOf (fbP 2) 0)
theorem fb_body : (Tryd.f14).body = some (.seq (fbP 0) (.seq (fbP 1) (.seq (.seq (fstC (fbP 2)) (.block 0 (.loop fbLoop))) (.seq (fbP 3) (.seq (fbP 4) (cutTail 5 fbBody)))))) := by kernel_rfl
theorem fb_out {w : World} {v0 v1 vd : Value} (a : Act) (hz : SBl v0 v1 vd (.int .i64 (4 : Nat)) a) (Q : Exit → Act → World → Prop) (hQ : ∀ a', SBl v0 v1 vd (.int .i64 (4 : Nat)) a' → Q (.exit 0) a' w) : fbLoop.wp Tryd.prog Q a w := by
  obtain ⟨x, rfl⟩ := hz.lit
  clear hz
  simp only [fbLoop, fbP, fstC, fbBody, bodyOf, Tryd.f14, Option.getD, cutTail, cutN, Option.map, blkOf, loopOf, cond, Nat.beq]
  go_wp2_with fail
  exact ⟨rfl, rfl, rfl, rfl, rfl, rfl⟩
set_option maxHeartbeats 1600000 in
theorem fb_round {w : World} {n : Int} {j : Nat} {d : ByteArray} {v1 : Value} (hn : 0 ≤ n ∧ n ≤ 4294967295) (hj : j < 4) (hd : d.size ≤ 100) (a : Act) (hz : SBl (.int .u32 n) v1 (.string d) (.int .i64 j) a) (Q : Exit → Act → World → Prop)
    (hQ : ∀ a' w' (b : UInt8), 48 ≤ b.toNat → b.toNat ≤ 55 → SBl (.int .u32 n) v1 (.string (d ++ ⟨#[b]⟩)) (.int .i64 (j + 1 : Nat)) a' → Below w.heap.size w w' → Q .normal a' w') : fbLoop.wp Tryd.prog Q a w := by
  obtain ⟨y, rfl⟩ := hz.lit
  clear hz
  have hw : IntKind.i64.wrap ((j : Int) + 1) = ((j + 1 : Nat) : Int) := by rw [show (j : Int) + 1 = ((j + 1 : Nat) : Int) by omega]; exact i64_small (by omega) (by omega)
  have hw8 : IntKind.i64.wrap (8 * (j : Int)) = ((8 * j : Nat) : Int) := by rw [show 8 * (j : Int) = ((8 * j : Nat) : Int) by omega]; exact i64_small (by omega) (by omega)
  have k1 : (0 : Int) ≤ ((8 * j : Nat) : Int) := by omega
  have k2 : (j : Int) < 4 := by omega
  have k3 : ((8 * j : Nat) : Int) < 32 := by omega
  obtain ⟨c, q1, q2, c1, c2⟩ : ∃ c : Nat, (48 + (n / 2 ^ (8 * j)).tmod 8) % 4294967296 = (c : Int) ∧ (c : Int) % 256 = (c : Int) ∧ 48 ≤ c ∧ c ≤ 55 := by
    have h0 : 0 ≤ n / 2 ^ (8 * j) := Int.ediv_nonneg hn.1 (Int.pow_nonneg (by decide))
    refine ⟨(48 + (n / 2 ^ (8 * j)).tmod 8).toNat, ?_⟩
    rw [Int.tmod_eq_emod_of_nonneg h0]
    omega
  have q3 : (48 + (n / 2 ^ (8 * j)).tmod 8) % 256 = (c : Int) := by omega
  have hs : (⟨#[UInt8.ofNat c]⟩ : ByteArray) = strOfNums [(c : Int)] := by
    show _ = (⟨#[UInt8.ofNat (c : Int).toNat]⟩ : ByteArray)
    rw [Int.toNat_natCast]
  have hcn : (UInt8.ofNat c).toNat = c := by rw [UInt8.toNat_ofNat_of_lt']; show c < 256; omega
  have hQ := fun a' w' => hQ a' w' (UInt8.ofNat c) (by omega) (by omega)
  rw [hs] at hQ
  clear hs hcn
  have hcv : Sem.run Tryd.prog (convert 45 9 (.slice (some ⟨w.heap.size, 0, none⟩) 1 1)) (w.alloc (.cells #[.int .u8 (c : Int)] 5)) = .ok (.string (strOfNums [(c : Int)])) (w.alloc (.cells #[.int .u8 (c : Int)] 5)) := conv_own (own_byte w (c : Int)) (by decide)
  have hB : Below w.heap.size w (w.alloc (.cells #[.int .u8 (c : Int)] 5)) := Below.alloc (Below.refl _ _) (Nat.le_refl _) _
  have hss : d.size + (strOfNums [(c : Int)]).size ≤ 9223372036854775807 := by
    have : (strOfNums [(c : Int)]).size = 1 := rfl
    omega
  generalize strOfNums [(c : Int)] = sc at hcv hQ hss
  simp only [fbLoop, fbP, fstC, fbBody, bodyOf, Tryd.f14, Option.getD, cutTail, cutN, Option.map, blkOf, loopOf, cond, Nat.beq]
  go_wp2_with fail
  exact hQ _ _ ⟨rfl, rfl, rfl, rfl, rfl, rfl⟩ hB
theorem fb_loop {w0 : World} {n : Int} {v1 : Value} (hn : 0 ≤ n ∧ n ≤ 4294967295) (Q : Exit → Act → World → Prop) 
    (hQ : ∀ a w d, SBl (.int .u32 n) v1 (.string d) (.int .i64 (4 : Nat)) a → d.size = 4 → (∀ x ∈ bts d, 48 ≤ x ∧ x ≤ 55) → Below w0.heap.size w0 w → Q .normal a w) :
    ∀ (k j : Nat) (d : ByteArray) (a : Act) (w : World), j + k = 4 → d.size = j → (∀ x ∈ bts d, 48 ≤ x ∧ x ≤ 55) → SBl (.int .u32 n) v1 (.string d) (.int .i64 j) a → Below w0.heap.size w0 w →
      Code.rounds Tryd.prog fbLoop (Exit.inBlock 0 Q) (k + 1) a w
  | 0, j, d, a, w, hj, hd, hx, hz, hB => by
    have : j = 4 := by omega
    subst this
    rw [rounds_succ]
    exact fb_out a hz _ (fun a' z' => hQ a' w d z' hd hx hB)
  | k + 1, j, d, a, w, hj, hd, hx, hz, hB => by
    rw [rounds_succ]
    refine fb_round hn (by omega) (by omega) a hz _ (fun a' w' b b1 b2 z' hb => ?_)
    refine fb_loop hn Q hQ k (j + 1) (d ++ ⟨#[b]⟩) a' w' (by omega) (by rw [app_size, hd]; rfl) (fun x h => ?_) z' (below_up hB hb)
    rw [bts_app, List.mem_append] at h
    rcases h with h | h
    · exact hx x h
    · rw [bts_one, List.mem_singleton] at h
      omega
/-- Known slots of a frame of 98. -/
structure SBm (v1 vd vl : Value) (a : Act) : Prop where
  defers : a.defers = []
  size : a.tmps.size = 98
  s1 : a.tmps[1]? = some v1
  s5 : a.tmps[5]? = some vd
  s8 : a.tmps[8]? = some vl
theorem SBm.lit {v1 vd vl : Value} {a : Act} (h : SBm v1 vd vl a) : ∃ x : Nat → Value, a = { tmps := #[x 0, v1, x 2, x 3, x 4, vd, x 6, x 7, vl, x 9, x 10, x 11, x 12, x 13, x 14, x 15, x 16, x 17, x 18, x 19, x 20, x 21, x 22, x 23, x 24, x 25, x 26, x 27, x 28, x 29, x 30, x 31, x 32, x 33, x 34, x 35, x 36, x 37, x 38, x 39, x 40, x 41, x 42, x 43, x 44, x 45, x 46, x 47, x 48, x 49, x 50, x 51, x 52, x 53, x 54, x 55, x 56, x 57, x 58, x 59, x 60, x 61, x 62, x 63, x 64, x 65, x 66, x 67, x 68, x 69, x 70, x 71, x 72, x 73, x 74, x 75, x 76, x 77, x 78, x 79, x 80, x 81, x 82, x 83, x 84, x 85, x 86, x 87, x 88, x 89, x 90, x 91, x 92, x 93, x 94, x 95, x 96, x 97], defers := [] } := by
  refine ⟨fun i => a.tmps.getD i undef, ?_⟩
  obtain ⟨t, d⟩ := a
  obtain ⟨h1, h2, k1, k5, k8⟩ := h
  simp only at h1 h2 k1 k5 k8
  subst h1
  have e1 : t.getD 1 undef = v1 := by rw [Array.getD_eq_getD_getElem?, k1]; rfl
  have e5 : t.getD 5 undef = vd := by rw [Array.getD_eq_getD_getElem?, k5]; rfl
  have e8 : t.getD 8 undef = vl := by rw [Array.getD_eq_getD_getElem?, k8]; rfl
  have ht := tmpsN 98 t h2
  rw [← e1, ← e5, ← e8]
  exact congrArg (fun t => ({ tmps := t, defers := [] } : Act)) ht
theorem SBm.of {v1 vd vl : Value} (x : Nat → Value) : SBm v1 vd vl { tmps := #[x 0, v1, x 2, x 3, x 4, vd, x 6, x 7, vl, x 9, x 10, x 11, x 12, x 13, x 14, x 15, x 16, x 17, x 18, x 19, x 20, x 21, x 22, x 23, x 24, x 25, x 26, x 27, x 28, x 29, x 30, x 31, x 32, x 33, x 34, x 35, x 36, x 37, x 38, x 39, x 40, x 41, x 42, x 43, x 44, x 45, x 46, x 47, x 48, x 49, x 50, x 51, x 52, x 53, x 54, x 55, x 56, x 57, x 58, x 59, x 60, x 61, x 62, x 63, x 64, x 65, x 66, x 67, x 68, x 69, x 70, x 71, x 72, x 73, x 74, x 75, x 76, x 77, x 78, x 79, x 80, x 81, x 82, x 83, x 84, x 85, x 86, x 87, x 88, x 89, x 90, x 91, x 92, x 93, x 94, x 95, x 96, x 97], defers := [] } := ⟨rfl, rfl, rfl, rfl, rfl⟩
/-- The texts that are no numbers. -/
def badL (d b : ByteArray) : List ByteArray := [⟨#[48, 120]⟩, ⟨#[48, 88]⟩, ⟨#[48, 98]⟩, ⟨#[48, 111]⟩, ⟨#[48, 98]⟩ ++ b ++ ⟨#[50]⟩, ⟨#[48, 98]⟩ ++ b ++ ⟨#[57]⟩, ⟨#[48, 111]⟩ ++ d ++ ⟨#[56]⟩, ⟨#[48]⟩ ++ d ++ ⟨#[57]⟩, ⟨#[48, 95]⟩ ++ d ++ ⟨#[56]⟩, ⟨#[49]⟩ ++ d ++ ⟨#[101]⟩, ⟨#[49]⟩ ++ d ++ ⟨#[101, 43]⟩,
  ⟨#[49, 46]⟩ ++ d ++ ⟨#[101, 45]⟩, ⟨#[49]⟩ ++ d ++ ⟨#[95]⟩, ⟨#[49, 95, 95]⟩ ++ d, ⟨#[48, 120]⟩ ++ d ++ ⟨#[95]⟩, ⟨#[48, 120, 95]⟩, ⟨#[48, 120]⟩ ++ d ++ ⟨#[112]⟩, ⟨#[48, 120]⟩ ++ d ++ ⟨#[46, 56]⟩, ⟨#[49]⟩ ++ d ++ ⟨#[112, 51]⟩, ⟨#[48, 98]⟩ ++ b ++ ⟨#[46, 48]⟩, ⟨#[48, 98]⟩ ++ b ++ ⟨#[101, 49]⟩, ⟨#[48, 111]⟩ ++ d ++ ⟨#[46]⟩ ++ d, ⟨#[48, 120, 46, 112, 49]⟩]
theorem rep_ones : ∀ c : Nat, ∀ x ∈ bts ⟨(Lib.repeatL [49] c).toArray⟩, x = 49
  | 0, x, h => by cases h
  | c + 1, x, h => by
    have e : bts ⟨(Lib.repeatL [49] (c + 1)).toArray⟩ = 49 :: bts ⟨(Lib.repeatL [49] c).toArray⟩ := by simp [bts, Lib.repeatL]
    rw [e] at h
    rcases List.mem_cons.1 h with rfl | h
    · rfl
    · exact rep_ones c x h
theorem rep_size (c : Nat) : (⟨(Lib.repeatL [49] c).toArray⟩ : ByteArray).size = c := by
  show (Lib.repeatL [49] c).toArray.size = c
  rw [List.size_toArray, Lib.repeatL_length]; simp
theorem own_strs (w : World) (l : List ByteArray) (n : Nat) (h : l.length = n) (hn : n ≤ 1000) : (w.alloc (.cells (strs l).toArray 9)).ownsRow w.heap.size 9 1 (.slice (some ⟨w.heap.size, 0, none⟩) n n) n (strs l) :=
  ⟨by simp [strs, h], .inr ⟨w.heap.size, n, (strs l).toArray, rfl, Nat.le_refl _, heap_alloc_new w _, Nat.le_refl _, by simp only [maxLen]; omega, by simp [strs, h], by rw [List.take_of_length_le (by simp [strs, h])]⟩⟩
set_option maxHeartbeats 6400000 in
theorem fb_mid {w : World} {n : Int} {v1 vk : Value} {d : ByteArray} (hn : 0 ≤ n ∧ n ≤ 4294967295) (hd : d.size = 4) (a : Act) (hz : SBl (.int .u32 n) v1 (.string d) vk a) (C : Code) (Q : Exit → Act → World → Prop)
    (hQ : ∀ a' w' b g, 0 < b.size → b.size ≤ 5 → (∀ x ∈ bts b, x = 49) → SBm v1 (.string d) (.slice (some ⟨g, 0, none⟩) 23 23) a' → (∀ (m : Nat) x, (badL d b)[m]? = some x → w'.cell? ⟨g, m, none⟩ = some (.string x)) → Below w.heap.size w w' → C.wp Tryd.prog Q a' w') : (Code.seq (fbP 3) (.seq (fbP 4) C)).wp Tryd.prog Q a w := by
  obtain ⟨y, rfl⟩ := hz.lit
  clear hz
  obtain ⟨r, e1, hr⟩ : ∃ r : Nat, n.tmod 5 = (r : Int) ∧ r < 5 := ⟨(n % 5).toNat, by rw [Int.tmod_eq_emod_of_nonneg hn.1]; omega, by omega⟩
  have e2 : IntKind.i64.wrap (1 + (r : Int)) = ((r + 1 : Nat) : Int) := by rw [show 1 + (r : Int) = ((r + 1 : Nat) : Int) by omega]; exact i64_small (by omega) (by omega)
  have hR := fun w => Tryd.strings_Repeat ⟨#[49]⟩ (r + 1) w (by omega) (by show 1 * (r + 1) ≤ _; omega)
  have b1 := rep_size (r + 1)
  have b2 := rep_ones (r + 1)
  have hR : ∀ w, Calls Tryd.prog 29 #[.string ⟨#[49]⟩, .int .i64 ((r + 1 : Nat) : Int)] w fun e w' => e = .returned (.string ⟨(Lib.repeatL [49] (r + 1)).toArray⟩) ∧ Below w.heap.size w w' := hR
  have b3 : (⟨(Lib.repeatL [49] (r + 1)).toArray⟩ : ByteArray).size ≤ 5 := by omega
  have b4 : 0 < (⟨(Lib.repeatL [49] (r + 1)).toArray⟩ : ByteArray).size := by omega
  generalize (⟨(Lib.repeatL [49] (r + 1)).toArray⟩ : ByteArray) = b at hR b1 b2 b3 b4
  have e3 : n % 18446744073709551616 = n := by omega
  have hO := fun w => own_strs w (badL d b) 23 rfl (by decide)
  have hQ := fun a' w' g => hQ a' w' b g b4 b3 b2
  generalize r + 1 = c at e2 hR b1
  clear b1 b4 b2 hr
  have hd4 : d.size ≤ 4 := by omega
  clear hd
  simp only [fbP, fstC, fbBody, bodyOf, Tryd.f14, Option.getD, cutTail, cutN, Option.map]
  go_wp2_with (go_at_call 29; refine (hR _).mono ?_; rintro en w2 ⟨rfl, hB2⟩)
  exact hQ _ _ _ ⟨rfl, rfl, rfl, rfl, rfl⟩ (fun m x hm => own_row_cell (hO w2) (strs_get hm)) (hB2.trans (below_weak (Below.alloc (Below.refl _ _) (Nat.le_refl _) _) hB2.size))
end Sc
end Go.Proofs.YtogkcphobhhbdaaDoor

/- Plain: texts that are no numbers. -/
namespace Go.Proofs.YtogkcphobhhbdaaDoor
open Go Go.RowKit Go.Lib
namespace Sc
open Ev
set_option maxRecDepth 100000
theorem bad_text {s : ByteArray} {P : NumP} (hs : s.size ≤ 2000) (hw : P.Wf) (hc : P.chars = bts s) (hok : P.ok s = false) : 0 < (last (s ++ ⟨#[32]⟩) 0).notes.length := by
  have hsz : (s ++ (⟨#[32]⟩ : ByteArray)).size = s.size + 1 := by rw [app_size]; rfl
  have hS : Sub (s ++ ⟨#[32]⟩) 0 s := ⟨by omega, fun j hj => by rw [Nat.zero_add, get_left _ _ _ hj]⟩
  have h32 : (s ++ (⟨#[32]⟩ : ByteArray)).get! s.size = 32 := by
    have := get_right s ⟨#[32]⟩ 0
    rw [Nat.add_zero] at this
    rw [this]; rfl
  have hch : ChAt (s ++ ⟨#[32]⟩) s.size 32 1 := by
    have := chAt_byte (src := s ++ ⟨#[32]⟩) (p := s.size) (by omega) (by rw [h32]; decide) (by rw [h32]; decide)
    rw [h32] at this
    exact this
  have hcl := cl_sub hS (by rw [← hc]; exact hw.ascii (by rw [hc]; exact bts_in s))
  rw [Nat.zero_add, ← hc] at hcl
  have hE : NumEnd (s ++ ⟨#[32]⟩) s.size P.ex P.im := by
    refine ⟨.inl ⟨_, _, hch⟩, fun r w h => ?_, fun _ _ _ r w h => ?_⟩
    · rw [(h.uniq hch).1]; decide +kernel
    · rw [(h.uniq hch).1]; decide
  obtain ⟨n, x, g1, g2, g3⟩ := num_pass (nl := false) (by omega) (stI_pos _ 0) (stI_go _ 0) (Nat.zero_le _) .nil (fun x hx => absurd hx List.not_mem_nil) hw hcl hE
  have e := sub_extract hS
  rw [Nat.zero_add] at e
  rw [e, hok] at g3
  refine told_some (by omega) ?_
  rw [nextF_passes, show ({ stI 0 with nlsemi := false } : St) = stI 0 from rfl, show (stI 0).nlsemi = false from rfl, g1]
  exact Nat.lt_of_le_of_lt (Nat.zero_le _) (g3.told rfl)
theorem d_tab {x : Int} (h : 48 ≤ x ∧ x ≤ 55) : decU x = true ∧ hexU x = true ∧ isDecimalF x = true ∧ x ≠ 95 := by
  have : x = 48 ∨ x = 49 ∨ x = 50 ∨ x = 51 ∨ x = 52 ∨ x = 53 ∨ x = 54 ∨ x = 55 := by omega
  rcases this with h | h | h | h | h | h | h | h <;> rw [h] <;> decide
theorem sep_bad {s : ByteArray} (hs : s.size ≤ 2000) (h : ¬ sepGood (sepT (bts s))) : decide (0 ≤ invalidSepF s) = true := by
  obtain ⟨h1, h2⟩ := invalidSep_ok (s := s) (by omega)
  exact decide_eq_true (h2 (fun hh => h (h1.1 hh)))
theorem sepGood_95 : ¬ sepGood (some 95) := fun ⟨d, h, hd⟩ => by cases h; exact hd rfl
theorem sepGood_none : ¬ sepGood none := fun ⟨d, h, hd⟩ => by cases h
theorem xe_of {b e0 : Int} {sg0 ds0 : List Int} (h : digU b e0 = false) : ∀ e sg ds, (some (e0, sg0, ds0) : NumE) = some (e, sg, ds) → digU b e = false := fun e sg ds he => by cases he; exact h
theorem exw {e : Int} {sg ds : List Int} (h1 : e = 101 ∨ e = 69 ∨ e = 112 ∨ e = 80) (h2 : sg = [] ∨ sg = [43] ∨ sg = [45]) (h3 : ∀ x ∈ ds, decU x = true) : ExWf (some (e, sg, ds)) := ⟨h1, h2, h3⟩
theorem ones_d1 {t : List Int} (ht : ∀ x ∈ t, decU x = true) {y : Int} (hy : decU y = true) : ∀ x ∈ 49 :: (t ++ [y]), decU x = true := fun x hx => by
  rcases List.mem_cons.1 hx with rfl | hx
  · decide
  · rcases List.mem_append.1 hx with hx | hx
    · exact ht x hx
    · rw [List.mem_singleton.1 hx]; exact hy
/-- A number that is none. -/
def NoNum (s : ByteArray) : Prop := ∃ P : NumP, P.Wf ∧ P.chars = bts s ∧ P.ok s = false
set_option maxHeartbeats 3200000 in
theorem bad_all {d b : ByteArray} (hd : d.size = 4) (hdx : ∀ x ∈ bts d, 48 ≤ x ∧ x ≤ 55) (hb0 : 0 < b.size) (hb5 : b.size ≤ 5) (hbx : ∀ x ∈ bts b, x = 49) : ∀ (m : Nat) x, (badL d b)[m]? = some x → x.size ≤ 2000 ∧ NoNum x := by
  have hl := bts_len d
  rw [hd] at hl
  obtain ⟨a, c, e, f, hbd⟩ : ∃ a c e f, bts d = [a, c, e, f] := by
    generalize bts d = l at hl
    match l, hl with
    | [a, c, e, f], _ => exact ⟨a, c, e, f, rfl⟩
  rw [hbd] at hdx
  obtain ⟨a1, a2, a3, a4⟩ := d_tab (hdx a (by simp))
  obtain ⟨c1, c2, c3, c4⟩ := d_tab (hdx c (by simp))
  obtain ⟨e1, e2, e3, e4⟩ := d_tab (hdx e (by simp))
  obtain ⟨f1, f2, f3, f4⟩ := d_tab (hdx f (by simp))
  obtain ⟨t, hbt, htx⟩ : ∃ t, bts b = 49 :: t ∧ ∀ x ∈ t, x = 49 := by
    have hl := bts_len b
    generalize bts b = l at hl hbx
    cases l with
    | nil => simp at hl; omega
    | cons x t => exact ⟨t, by rw [hbx x (by simp)], fun y hy => hbx y (List.mem_cons_of_mem _ hy)⟩
  have ht : ∀ x ∈ t, decU x = true := fun x hx => by rw [htx x hx]; decide
  have u48 : decU 48 = true := by decide
  have u49 : decU 49 = true := by decide
  have u50 : decU 50 = true := by decide
  have u56 : decU 56 = true := by decide
  have u57 : decU 57 = true := by decide
  have u95 : decU 95 = true := by decide
  have w95 : hexU 95 = true := by decide
  have w56 : hexU 56 = true := by decide
  have hsz : ∀ x ∈ badL d b, x.size ≤ 2000 := by
    intro x hx
    simp only [badL, List.mem_cons, List.not_mem_nil, or_false] at hx
    rcases hx with h | h | h | h | h | h | h | h | h | h | h | h | h | h | h | h | h | h | h | h | h | h | h <;> rw [h] <;> (try simp only [app_size, hd]) <;> first | decide | (show _ + b.size + _ ≤ 2000; first | (show 2 + b.size + 1 ≤ 2000; omega) | (show 2 + b.size + 2 ≤ 2000; omega))
  intro m x hm
  have hmem := List.mem_of_getElem? hm
  refine ⟨hsz x hmem, ?_⟩
  have hx2 := hsz x hmem
  clear hm hsz
  simp only [badL, List.mem_cons, List.not_mem_nil, or_false] at hmem
  rcases hmem with h | h | h | h | h | h | h | h | h | h | h | h | h | h | h | h | h | h | h | h | h | h | h
  · exact ⟨⟨120, 120, [], false, [], none, false⟩, ⟨by simp, by simp, by simp, by simp, trivial, by simp⟩, by rw [h]; rfl, by simp [NumP.ok, hasDg]⟩
  · exact ⟨⟨120, 88, [], false, [], none, false⟩, ⟨by simp, by simp, by simp, by simp, trivial, by simp⟩, by rw [h]; rfl, by simp [NumP.ok, hasDg]⟩
  · exact ⟨⟨98, 98, [], false, [], none, false⟩, ⟨by simp, by simp, by simp, by simp, trivial, by simp⟩, by rw [h]; rfl, by simp [NumP.ok, hasDg]⟩
  · exact ⟨⟨111, 111, [], false, [], none, false⟩, ⟨by simp, by simp, by simp, by simp, trivial, by simp⟩, by rw [h]; rfl, by simp [NumP.ok, hasDg]⟩
  · exact ⟨⟨98, 98, 49 :: (t ++ [50]), false, [], none, false⟩, ⟨by simp, fun x hx => ones_d1 ht (y := 50) u50 x hx, by simp, by simp, trivial, by simp⟩, by rw [h, bts_app, bts_app, hbt]; simp [NumP.chars, NumP.head, NumP.tail, ptChars, exChars, imChars, bts], by simp [NumP.ok, NumP.kind, numKind, NumP.base, badDg]⟩
  · exact ⟨⟨98, 98, 49 :: (t ++ [57]), false, [], none, false⟩, ⟨by simp, fun x hx => ones_d1 ht (y := 57) u57 x hx, by simp, by simp, trivial, by simp⟩, by rw [h, bts_app, bts_app, hbt]; simp [NumP.chars, NumP.head, NumP.tail, ptChars, exChars, imChars, bts], by simp [NumP.ok, NumP.kind, numKind, NumP.base, badDg]⟩
  · exact ⟨⟨111, 111, [a, c, e, f, 56], false, [], none, false⟩, ⟨by simp, by simp [NumP.base, digU, u56, a1, c1, e1, f1], by simp, by simp, trivial, by simp⟩, by rw [h, bts_app, bts_app, hbd]; rfl, by simp [NumP.ok, NumP.kind, numKind, NumP.base, badDg]⟩
  · exact ⟨⟨48, 0, [a, c, e, f, 57], false, [], none, false⟩, ⟨by simp, by simp [NumP.base, digU, u57, a1, c1, e1, f1], by simp, by simp, trivial, by simp⟩, by rw [h, bts_app, bts_app, hbd]; rfl, by simp [NumP.ok, NumP.kind, numKind, NumP.base, badDg]⟩
  · exact ⟨⟨48, 0, [95, a, c, e, f, 56], false, [], none, false⟩, ⟨by simp, by simp [NumP.base, digU, u56, u95, a1, c1, e1, f1], by simp, by simp, trivial, by simp⟩, by rw [h, bts_app, bts_app, hbd]; rfl, by simp [NumP.ok, NumP.kind, numKind, NumP.base, badDg]⟩
  · exact ⟨⟨0, 0, [49, a, c, e, f], false, [], some (101, [], []), false⟩, ⟨by simp, by simp [NumP.base, digU, u49, a1, c1, e1, f1], by simp, by simp, exw (by decide) (by decide) (by simp), xe_of rfl⟩, by rw [h, bts_app, bts_app, hbd]; rfl, by simp [NumP.ok, exOk, hasDg]⟩
  · exact ⟨⟨0, 0, [49, a, c, e, f], false, [], some (101, [43], []), false⟩, ⟨by simp, by simp [NumP.base, digU, u49, a1, c1, e1, f1], by simp, by simp, exw (by decide) (by decide) (by simp), xe_of rfl⟩, by rw [h, bts_app, bts_app, hbd]; rfl, by simp [NumP.ok, exOk, hasDg]⟩
  · exact ⟨⟨0, 0, [49], true, [a, c, e, f], some (101, [45], []), false⟩, ⟨by simp, by simp [NumP.base, digU, u49], by simp [NumP.base, digU, a1, c1, e1, f1], by simp, exw (by decide) (by decide) (by simp), xe_of rfl⟩, by rw [h, bts_app, bts_app, hbd]; rfl, by simp [NumP.ok, exOk, hasDg]⟩
  · have hs := sep_bad hx2 (by rw [h, bts_app, bts_app, hbd]; simp [bts, sepT, sepL, a3, a4, c3, c4, e3, e4, f3, f4, show isDecimalF 49 = true by decide, sepGood_95])
    exact ⟨⟨0, 0, [49, a, c, e, f, 95], false, [], none, false⟩, ⟨by simp, by simp [NumP.base, digU, u49, u95, a1, c1, e1, f1], by simp, by simp, trivial, by simp⟩, by rw [h, bts_app, bts_app, hbd]; rfl, by unfold NumP.ok; rw [hs]; simp [hasSp]⟩
  · have hs := sep_bad hx2 (by rw [h, bts_app, hbd]; simp [bts, sepT, sepL, show isDecimalF 49 = true by decide, sepGood_none])
    exact ⟨⟨0, 0, [49, 95, 95, a, c, e, f], false, [], none, false⟩, ⟨by simp, by simp [NumP.base, digU, u49, u95, a1, c1, e1, f1], by simp, by simp, trivial, by simp⟩, by rw [h, bts_app, hbd]; rfl, by unfold NumP.ok; rw [hs]; simp [hasSp]⟩
  · have hs := sep_bad hx2 (by rw [h, bts_app, bts_app, hbd]; simp [bts, sepT, show preL 120 = true by decide, sepL, a3, a4, c3, c4, e3, e4, f3, f4, sepGood_95])
    exact ⟨⟨120, 120, [a, c, e, f, 95], false, [], none, false⟩, ⟨by simp, by simp [NumP.base, digU, w95, a2, c2, e2, f2], by simp, by simp, trivial, by simp⟩, by rw [h, bts_app, bts_app, hbd]; rfl, by unfold NumP.ok; rw [hs]; simp [hasSp]⟩
  · exact ⟨⟨120, 120, [95], false, [], none, false⟩, ⟨by simp, by simp [NumP.base, digU, w95], by simp, by simp, trivial, by simp⟩, by rw [h]; rfl, by simp [NumP.ok, hasDg]⟩
  · exact ⟨⟨120, 120, [a, c, e, f], false, [], some (112, [], []), false⟩, ⟨by simp, by simp [NumP.base, digU, a2, c2, e2, f2], by simp, by simp, exw (by decide) (by decide) (by simp), xe_of rfl⟩, by rw [h, bts_app, bts_app, hbd]; rfl, by simp [NumP.ok, exOk, hasDg]⟩
  · exact ⟨⟨120, 120, [a, c, e, f], true, [56], none, false⟩, ⟨by simp, by simp [NumP.base, digU, a2, c2, e2, f2], by simp [NumP.base, digU, w56], by simp, trivial, by simp⟩, by rw [h, bts_app, bts_app, hbd]; rfl, by simp [NumP.ok, exOk, hasDg]⟩
  · exact ⟨⟨0, 0, [49, a, c, e, f], false, [], some (112, [], [51]), false⟩, ⟨by simp, by simp [NumP.base, digU, u49, a1, c1, e1, f1], by simp, by simp, exw (by decide) (by decide) (by decide), xe_of rfl⟩, by rw [h, bts_app, bts_app, hbd]; rfl, by simp [NumP.ok, exOk, show lowerF 112 = 112 by decide]⟩
  · exact ⟨⟨98, 98, 49 :: t, true, [48], none, false⟩, ⟨by simp, by simp [NumP.base, digU, u49]; exact ht, by simp [NumP.base, digU, u48], by simp, trivial, by simp⟩, by rw [h, bts_app, bts_app, hbt]; simp [NumP.chars, NumP.head, NumP.tail, ptChars, exChars, imChars, bts], by simp [NumP.ok]⟩
  · exact ⟨⟨98, 98, 49 :: t, false, [], some (101, [], [49]), false⟩, ⟨by simp, by simp [NumP.base, digU, u49]; exact ht, by simp, by simp, exw (by decide) (by decide) (by decide), xe_of rfl⟩, by rw [h, bts_app, bts_app, hbt]; simp [NumP.chars, NumP.head, NumP.tail, ptChars, exChars, imChars, bts], by simp [NumP.ok, exOk, show lowerF 101 = 101 by decide]⟩
  · exact ⟨⟨111, 111, [a, c, e, f], true, [a, c, e, f], none, false⟩, ⟨by simp, by simp [NumP.base, digU, a1, c1, e1, f1], by simp [NumP.base, digU, a1, c1, e1, f1], by simp, trivial, by simp⟩, by rw [h, bts_app, bts_app, bts_app, hbd]; rfl, by simp [NumP.ok]⟩
  · exact ⟨⟨120, 120, [], true, [], some (112, [], [49]), false⟩, ⟨by simp, by simp, by simp, by simp, exw (by decide) (by decide) (by decide), xe_of rfl⟩, by rw [h]; rfl, by simp [NumP.ok, hasDg]⟩
theorem one_good {s : ByteArray} {l : List Int} (hs : s.size ≤ 2000) (hb : bts s = 49 :: l) (hl : ∀ x ∈ l, 48 ≤ x ∧ x ≤ 55) : (last s 0).notes = [] := by
  have h95 : hasSp (49 :: l) = false := by
    unfold hasSp
    rw [List.any_eq_false]
    intro x hx
    rcases List.mem_cons.1 hx with rfl | hx
    · decide
    · have := (d_tab (hl x hx)).2.2.2
      simpa using this
  have hbad : badDg 58 (49 :: l) = false := by
    unfold badDg
    rw [List.any_eq_false]
    intro x hx
    rcases List.mem_cons.1 hx with rfl | hx
    · decide
    · have := (hl x hx).2
      simp; omega
  have hw : (NumP.mk 0 0 (49 :: l) false [] none false).Wf := by
    refine ⟨by simp, fun x hx => ?_, by simp, by simp, trivial, by simp⟩
    rcases List.mem_cons.1 hx with rfl | hx
    · exact (show decU 49 = true by decide)
    · exact (d_tab (hl x hx)).1
  have hc : (NumP.mk 0 0 (49 :: l) false [] none false).chars = bts s := by
    rw [hb]; simp [NumP.chars, NumP.head, NumP.tail, ptChars, exChars, imChars]
  have hok : (NumP.mk 0 0 (49 :: l) false [] none false).ok s = true := by
    simp [NumP.ok, NumP.kind, numKind, NumP.base, h95, hbad, hasDg, exOk, exSp, show hasSp [] = false from rfl]
  exact (num_text (by omega) hw hc hok).2
end Sc
end Go.Proofs.YtogkcphobhhbdaaDoor

/- FnBadNumber: true at every number and kind. -/
namespace Go.Proofs.YtogkcphobhhbdaaDoor
open Go Go.RowKit Go.Lib
namespace Sc
open Ev
set_option maxRecDepth 100000
theorem refused_not {w : World} {ea : Addr} {src : ByteArray} (hG : Glob w ea) (hn : src.size ≤ 2048) (h : (last src 0).notes = []) :
    Calls Tryd.prog 20 #[.string src] w fun en w' => en = .returned (.bool false) ∧ Below w.heap.size w w' := by
  have := refused_walk hG hn
  rw [h] at this
  exact this
theorem fb_first {w : World} {n k : Int} (B C : Code) (Q : Exit → Act → World → Prop)
    (hQ : ∀ a, SBl (.int .u32 n) (.int .u8 k) (.string ⟨#[]⟩) (.int .i64 (0 : Nat)) a → B.wp Tryd.prog (Exit.then (fun a w => C.wp Tryd.prog Q a w) Q) a w) :
    (Code.seq (fbP 0) (.seq (fbP 1) (.seq (.seq (fstC (fbP 2)) B) C))).wp Tryd.prog Q { tmps := #[.int .u32 n, .int .u8 k] ++ Array.replicate 96 undef, defers := [] } w := by
  simp only [fbP, fstC, fbBody, bodyOf, Tryd.f14, Option.getD, cutTail, cutN, Option.map, Array.replicate_succ, Array.replicate_zero, List.push_toArray, List.append_toArray, List.nil_append, List.cons_append]
  go_wp2_with fail
  first
    | exact hQ _ ⟨rfl, rfl, rfl, rfl, rfl, rfl⟩
    | (rename_i K hK
       refine Code.wp_mono (fun e a w h => ?_) (hQ _ ⟨rfl, rfl, rfl, rfl, rfl, rfl⟩)
       cases e <;> first | exact hK _ _ h | exact h)
set_option maxHeartbeats 3200000 in
theorem fb_last {w : World} {ea : Addr} (hG : Glob w ea) {k : Int} {m g : Nat} {d x : ByteArray} (hk : k.tmod 23 = (m : Int)) (hk0 : 0 ≤ k ∧ k ≤ 255) (hm : m < 23) (hc : w.cell? ⟨g, m, none⟩ = some (.string x)) (hx : x.size ≤ 2000) (hd : d.size ≤ 4) (h1 : 0 < (last (x ++ ⟨#[32]⟩) 0).notes.length) (h2 : (last (⟨#[49]⟩ ++ d) 0).notes = [])
    (a : Act) (hz : SBm (.int .u8 k) (.string d) (.slice (some ⟨g, 0, none⟩) 23 23) a) (Q : Exit → Act → World → Prop) (hQ : ∀ a' w', a'.defers = [] → a'.tmps[4]? = some (.bool true) → Below w.heap.size w w' → Q .ret a' w') : (cutTail 5 fbBody).wp Tryd.prog Q a w := by
  obtain ⟨y, rfl⟩ := hz.lit
  clear hz
  have s1 : (x ++ (⟨#[32]⟩ : ByteArray)).size ≤ 2048 := by rw [app_size]; show x.size + 1 ≤ 2048; omega
  have s2 : ((⟨#[49]⟩ : ByteArray) ++ d).size ≤ 2048 := by rw [app_size]; show 1 + d.size ≤ 2048; omega
  have hR1 := fun w hG => refused_yes (w := w) (ea := ea) hG s1 h1
  have hR2 := fun w hG => refused_not (w := w) (ea := ea) hG s2 h2
  clear h1 h2
  have k1 : (0 : Int) ≤ (m : Int) := by omega
  have k2 : (m : Int) < 23 := by omega
  have k3 : k % 18446744073709551616 = k := by omega
  have k4 : IntKind.i64.wrap k = k := i64_small (by omega) (by omega)
  clear hm hk0
  simp only [fbBody, bodyOf, Tryd.f14, Option.getD, cutTail, cutN, Option.map]
  go_wp2_with (first
      | (go_at_call 20; with_reducible refine (hR1 _ hG).mono ?_; rintro en w4 ⟨rfl, hB4⟩)
      | (go_at_call 20; with_reducible refine (hR2 _ (glob_move hG hB4)).mono ?_; rintro en w5 ⟨rfl, hB5⟩; have hB5 := below_up hB4 hB5))
  exact hQ _ _ rfl rfl hB5
theorem fb_res {a : Act} {w : World} {v : Value} (h4 : a.tmps[4]? = some v) : (results Tryd.f14 a.tmps).run Tryd.prog w = .ok v w := by
  exact one_res (k := 4) (by kernel_rfl) h4
theorem fnBadNumber_walk {w : World} {ea : Addr} (n k : Int) (hG : Glob w ea) (hn : 0 ≤ n ∧ n ≤ 4294967295) (hk : 0 ≤ k ∧ k ≤ 255) :
    Calls Tryd.prog 14 #[.int .u32 n, .int .u8 k] w fun en w' => en = .returned (.bool true) ∧ Below w.heap.size w w' := by
  refine calls_of_wp Tryd.func14 fb_body ?_
  have hnt : (Tryd.f14).ntmps - (#[.int .u32 n, .int .u8 k] : Array Value).size = 96 := by kernel_rfl
  rw [hnt]
  obtain ⟨m, em, lm⟩ : ∃ m : Nat, k.tmod 23 = m ∧ m < 23 := ⟨(k % 23).toNat, by rw [Int.tmod_eq_emod_of_nonneg hk.1]; omega, by omega⟩
  refine fb_first _ _ _ (fun a z => ?_)
  refine wp_block (wp_loop_rounds (4 + 1) ?_)
  refine fb_loop (w0 := w) hn _ (fun a1 w1 d z1 hd hdx b1 => ?_) 4 0 ⟨#[]⟩ a w rfl rfl (fun x hx => by cases hx) z (Below.refl _ _)
  show (Code.seq (fbP 3) (.seq (fbP 4) (cutTail 5 fbBody))).wp _ _ a1 w1
  refine fb_mid hn hd a1 z1 _ _ (fun a2 w2 b g hb0 hb5 hbx z2 hcell b2 => ?_)
  have b2 := below_up b1 b2
  have hlm : m < (badL d b).length := lm
  have hat : (badL d b)[m]? = some (badL d b)[m] := List.getElem?_eq_getElem hlm
  obtain ⟨hxs, P, p1, p2, p3⟩ := bad_all hd hdx hb0 hb5 hbx m _ hat
  have h1 := bad_text hxs p1 p2 p3
  have h2 : (last (⟨#[49]⟩ ++ d) 0).notes = [] := one_good (l := bts d) (by rw [app_size, hd]; decide) (by rw [bts_app]; rfl) hdx
  exact fb_last (glob_move hG b2) em hk lm (hcell m _ hat) hxs (by omega) h1 h2 a2 z2 _ (fun a3 w3 d0 d4 b3 => ⟨d0, _, fb_res d4, rfl, below_up b2 b3⟩)
end Sc
end Go.Proofs.YtogkcphobhhbdaaDoor

/- From the listed variables to what the scanner reads of them. -/
namespace Go.Proofs.YtogkcphobhhbdaaDoor
open Go Go.RowKit Go.Lib Go.Shelf
namespace Sc
set_option maxRecDepth 100000
/-- The numbers of this dump, for the library's laws on tables. -/
def tabRen : Go.Shelf.Ren := ⟨fun n => n, fun | 3 => 3 | 49 => 120 | 51 => 44 | 141 => 94 | 196 => 119 | 193 => 116 | 194 => 117 | 198 => 122 | 201 => 125 | 5 => 5 | 119 => 115 | 138 => 152 | 139 => 153 | n => n, fun | 3 => 7 | 4 => 8 | n => n⟩
theorem tabR : RTypes Tryd.prog tabRen := ⟨Tryd.underlying3, Tryd.underlying120, Tryd.underlying44, Tryd.underlying94, Tryd.underlying116, Tryd.underlying117, Tryd.underlying119, Tryd.underlying122, Tryd.underlying125⟩
theorem tabX : RExtra Tryd.prog tabRen := ⟨by kernel_rfl, by kernel_rfl, by kernel_rfl, by kernel_rfl, by kernel_rfl, by kernel_rfl, by kernel_rfl, by kernel_rfl⟩
theorem u8R : U8Types Tryd.prog tabRen := ⟨Tryd.underlying5, Tryd.underlying115, Tryd.underlying152, Tryd.underlying153⟩
theorem u8X : U8Extra Tryd.prog tabRen := ⟨by kernel_rfl, by kernel_rfl, by kernel_rfl, by kernel_rfl, by kernel_rfl, by kernel_rfl, by kernel_rfl⟩
theorem errRow (u : TypeId) (h : Tryd.prog.typeName? 3 u = some "*errors.errorString") : u = 167 :=
  typeName_ptr_named (nm := "errors.errorString") (by rw [show "*" ++ "errors.errorString" = "*errors.errorString" by rfl]; kernel_rfl) (by kernel_rfl) (by decide) u (by rw [show "*" ++ "errors.errorString" = "*errors.errorString" by rfl]; exact h)
theorem tab_cell {W : World} {name : String} {g : Nat} {t e : TypeId} {n : Nat} {zs : List Int} (hg : Tryd.prog.globalNamed name = some g) (hy : (Tryd.prog.globals[g]?).map (·.type) = some t) (ht : Tryd.prog.underlying t = some (.array n e)) (he : Tryd.prog.underlying e = some (.int .u8)) (hce : Tryd.prog.cellsOf e = 1) (hct : Tryd.prog.cellsOf t = n)
    (h : VarReads Tryd.prog W name (tabData .u8 zs)) : TabIs Tryd.prog W name .u8 zs := by
  obtain ⟨g', t', cs, fuel, p, hg', hty, hvar, hd⟩ := h
  obtain rfl := Option.some.inj (hg.symm.trans hg')
  obtain rfl := Option.some.inj (hy.symm.trans hty)
  have hcs := cells_of_tab ht he hce hct hd
  unfold TabIs
  rw [hvar, ← hcs]
def tokTab : List Int := [0, 3, 7, 14, 16, 19, 23, 24, 26, 28, 29, 30, 31, 32, 33, 34, 35, 36, 37, 38, 39, 42, 47, 51, 55, 60, 68, 75, 80, 84, 95, 98, 102, 104, 108, 110, 116, 125, 128, 135, 140, 146, 152, 158, 164, 168, 171, 171]
def opTab : List Int := [0, 1, 2, 4, 5, 7, 9, 11, 13, 14, 16, 17, 19, 20, 21, 22, 23, 24, 25, 26, 27, 29, 31, 33]
theorem glob_of {W : World} (h : laidMet Tryd.prog Rows.fnEndsRow.laid W) : ∃ ea, Glob W ea := by
  have rd : ∀ {n : String} {d : DataW Unit}, (n, d) ∈ Rows.fnEndsRow.laid → VarReads Tryd.prog W n d := fun hm => Lib.laidMet.reads h hm
  have h5 := h.tail.tail.tail.tail
  obtain ⟨ea, s, hv, _, _, _⟩ := laid_sentinel (n := "io.EOF") (nm := "*errors.errorString") (text := [69, 79, 70]) h5 (g := 6) (by kernel_rfl) (by kernel_rfl) Tryd.underlying75 errRow Tryd.underlying167 Tryd.underlying181 rfl rfl Tryd.underlying9 (by kernel_rfl) (by kernel_rfl)
  have mem : ∀ i x, Rows.fnEndsRow.laid[i]? = some x → x ∈ Rows.fnEndsRow.laid := fun i x hx => List.mem_of_getElem? hx
  have r3 := rd (mem 3 ("unicode/utf8.acceptRanges", Rows.laid_unicode_utf8_acceptRanges) rfl)
  have r6 := rd (mem 6 ("unicode.properties", Rows.laid_unicode_properties) rfl)
  have r7 := rd (mem 7 (_, Rows.laid_loop_example_pub_g03120_pub_gosyntax_Operator_index) rfl)
  have r8 := rd (mem 8 (_, Rows.laid_loop_example_pub_g03120_pub_gosyntax_token_index) rfl)
  have r9 := rd (mem 9 ("unicode.Digit", Rows.laid_unicode_Digit) rfl)
  have r10 := rd (mem 10 ("unicode.Letter", Rows.laid_unicode_Letter) rfl)
  have r11 := rd (mem 11 ("unicode/utf8.first", Rows.laid_unicode_utf8_first) rfl)
  have e3 : (Rows.laid_unicode_utf8_acceptRanges : DataW Unit) = acceptData := by kernel_rfl
  have e6 : (Rows.laid_unicode_properties : DataW Unit) = tabData .u8 propertiesTab := by kernel_rfl
  have e7 : (Rows.laid_loop_example_pub_g03120_pub_gosyntax_Operator_index : DataW Unit) = tabData .u8 opTab := by kernel_rfl
  have e8 : (Rows.laid_loop_example_pub_g03120_pub_gosyntax_token_index : DataW Unit) = tabData .u8 tokTab := by kernel_rfl
  rw [e3] at r3
  rw [e6] at r6
  rw [e7] at r7
  rw [e8] at r8
  have r9' : VarReads Tryd.prog W "unicode.Digit" (rtabData digitT) := Pinned.digit_eq ▸ r9
  have r10' : VarReads Tryd.prog W "unicode.Letter" (rtabData letterT) := Pinned.letter_eq ▸ r10
  have r11' : VarReads Tryd.prog W "unicode/utf8.first" firstData := Pinned.utf8First_eq ▸ r11
  have t7 := tab_cell (g := 2) (t := 114) (by kernel_rfl) (by kernel_rfl) Tryd.underlying114 Tryd.underlying5 (by kernel_rfl) (by kernel_rfl) r7
  have t8 := tab_cell (g := 1) (t := 113) (by kernel_rfl) (by kernel_rfl) Tryd.underlying113 Tryd.underlying5 (by kernel_rfl) (by kernel_rfl) r8
  have t6 := tab_cell (g := 4) (t := 115) (by kernel_rfl) (by kernel_rfl) Tryd.underlying115 Tryd.underlying5 (by kernel_rfl) (by kernel_rfl) r6
  have r1 := rd (mem 1 ("math/bits.deBruijn64tab", Rows.laid_math_bits_deBruijn64tab) rfl)
  refine ⟨ea, ?_, ?_, t6, ?_, ?_, ?_, ?_, ?_⟩
  · have := World.var?_cell (show Tryd.prog.globalNamed "io.EOF" = some 6 by kernel_rfl) hv 0
    simpa using this
  · exact utf8Tabs_of_readsT u8R u8X r11' r3
  · exact rvar_of_readsT tabR tabX (name := "unicode.Letter") (g := 5) (by kernel_rfl) (by kernel_rfl) r10'
  · exact rvar_of_readsT tabR tabX (name := "unicode.Digit") (g := 0) (by kernel_rfl) (by kernel_rfl) r9'
  · exact fun i hi => t8.cell (by kernel_rfl) i hi
  · exact fun i hi => t7.cell (by kernel_rfl) i hi
  · obtain ⟨g', t', cs, fuel, p, hg', hty, hvar, hd⟩ := r1
    obtain rfl := Option.some.inj ((show Tryd.prog.globalNamed "math/bits.deBruijn64tab" = some 12 by kernel_rfl).symm.trans hg')
    unfold World.var? at hvar
    rw [hg'] at hvar
    simp only [Option.bind_some] at hvar
    cases hh : W.heap[12]? with
    | none => rw [hh] at hvar; cases hvar
    | some o => exact (Array.getElem?_eq_some_iff.1 hh).1
end Sc
end Go.Proofs.YtogkcphobhhbdaaDoor
