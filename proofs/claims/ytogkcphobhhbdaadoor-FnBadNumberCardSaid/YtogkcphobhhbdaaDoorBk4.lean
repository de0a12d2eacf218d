/- The scanner of the program told as plain functions, part 4: texts joined by a program (wip/tools/shake.py), without what this claim does not reach. -/
import Derived.Test.YtogkcphobhhbdaaDoorBk3
import Derived.Deep.RegionHeld3
import Derived.Deep.AppendLies
import Derived.Lib.OthersKept
import Derived.Lib.DecodeN
import Derived.Laws.BitsLemmas
import Derived.Lib.RuneBytes
set_option linter.unusedVariables false
set_option linter.unusedSimpArgs false
/- token.String and Operator.String walked. (Printed by tools/genStr.py.) -/
namespace Go.Proofs.YtogkcphobhhbdaaDoor
open Go Go.RowKit Go.Lib
namespace Sc
set_option maxRecDepth 100000
def opNames : ByteArray := ⟨#[58,33,60,45,126,124,124,38,38,61,61,33,61,60,60,61,62,62,61,43,45,124,94,42,47,37,38,38,94,60,60,62,62]⟩
def opIx (i : Nat) : Nat := [0, 1, 2, 4, 5, 7, 9, 11, 13, 14, 16, 17, 19, 20, 21, 22, 23, 24, 25, 26, 27, 29, 31, 33].getD i 0
/-- The sign of operator t (from 1 on). -/
def opWord (t : Nat) : ByteArray := opNames.extract (opIx (t - 1)) (opIx t)
theorem tokS_1 (w : World) (c1 : w.cell? ⟨1, 0, none⟩ = some (.int .u8 0)) (c2 : w.cell? ⟨1, 1, none⟩ = some (.int .u8 3)) :
    Calls Tryd.prog 53 #[.int .u64 1] w fun e w' => e = .returned (.string (tokWord 1)) ∧ ∃ m, w' = w.drewN m := by
  go_enter Tryd.func53, Tryd.ntmps53
  go_wp2_with fail
  go_quiet (fail)
  go_wp2_with fail
  go_ret
  exact ⟨rfl, _, rfl⟩
theorem tokS_2 (w : World) (c1 : w.cell? ⟨1, 1, none⟩ = some (.int .u8 3)) (c2 : w.cell? ⟨1, 2, none⟩ = some (.int .u8 7)) :
    Calls Tryd.prog 53 #[.int .u64 2] w fun e w' => e = .returned (.string (tokWord 2)) ∧ ∃ m, w' = w.drewN m := by
  go_enter Tryd.func53, Tryd.ntmps53
  go_wp2_with fail
  go_quiet (fail)
  go_wp2_with fail
  go_ret
  exact ⟨rfl, _, rfl⟩
theorem tokS_3 (w : World) (c1 : w.cell? ⟨1, 2, none⟩ = some (.int .u8 7)) (c2 : w.cell? ⟨1, 3, none⟩ = some (.int .u8 14)) :
    Calls Tryd.prog 53 #[.int .u64 3] w fun e w' => e = .returned (.string (tokWord 3)) ∧ ∃ m, w' = w.drewN m := by
  go_enter Tryd.func53, Tryd.ntmps53
  go_wp2_with fail
  go_quiet (fail)
  go_wp2_with fail
  go_ret
  exact ⟨rfl, _, rfl⟩
theorem tokS_4 (w : World) (c1 : w.cell? ⟨1, 3, none⟩ = some (.int .u8 14)) (c2 : w.cell? ⟨1, 4, none⟩ = some (.int .u8 16)) :
    Calls Tryd.prog 53 #[.int .u64 4] w fun e w' => e = .returned (.string (tokWord 4)) ∧ ∃ m, w' = w.drewN m := by
  go_enter Tryd.func53, Tryd.ntmps53
  go_wp2_with fail
  go_quiet (fail)
  go_wp2_with fail
  go_ret
  exact ⟨rfl, _, rfl⟩
theorem tokS_5 (w : World) (c1 : w.cell? ⟨1, 4, none⟩ = some (.int .u8 16)) (c2 : w.cell? ⟨1, 5, none⟩ = some (.int .u8 19)) :
    Calls Tryd.prog 53 #[.int .u64 5] w fun e w' => e = .returned (.string (tokWord 5)) ∧ ∃ m, w' = w.drewN m := by
  go_enter Tryd.func53, Tryd.ntmps53
  go_wp2_with fail
  go_quiet (fail)
  go_wp2_with fail
  go_ret
  exact ⟨rfl, _, rfl⟩
theorem tokS_6 (w : World) (c1 : w.cell? ⟨1, 5, none⟩ = some (.int .u8 19)) (c2 : w.cell? ⟨1, 6, none⟩ = some (.int .u8 23)) :
    Calls Tryd.prog 53 #[.int .u64 6] w fun e w' => e = .returned (.string (tokWord 6)) ∧ ∃ m, w' = w.drewN m := by
  go_enter Tryd.func53, Tryd.ntmps53
  go_wp2_with fail
  go_quiet (fail)
  go_wp2_with fail
  go_ret
  exact ⟨rfl, _, rfl⟩
theorem tokS_7 (w : World) (c1 : w.cell? ⟨1, 6, none⟩ = some (.int .u8 23)) (c2 : w.cell? ⟨1, 7, none⟩ = some (.int .u8 24)) :
    Calls Tryd.prog 53 #[.int .u64 7] w fun e w' => e = .returned (.string (tokWord 7)) ∧ ∃ m, w' = w.drewN m := by
  go_enter Tryd.func53, Tryd.ntmps53
  go_wp2_with fail
  go_quiet (fail)
  go_wp2_with fail
  go_ret
  exact ⟨rfl, _, rfl⟩
theorem tokS_8 (w : World) (c1 : w.cell? ⟨1, 7, none⟩ = some (.int .u8 24)) (c2 : w.cell? ⟨1, 8, none⟩ = some (.int .u8 26)) :
    Calls Tryd.prog 53 #[.int .u64 8] w fun e w' => e = .returned (.string (tokWord 8)) ∧ ∃ m, w' = w.drewN m := by
  go_enter Tryd.func53, Tryd.ntmps53
  go_wp2_with fail
  go_quiet (fail)
  go_wp2_with fail
  go_ret
  exact ⟨rfl, _, rfl⟩
theorem tokS_9 (w : World) (c1 : w.cell? ⟨1, 8, none⟩ = some (.int .u8 26)) (c2 : w.cell? ⟨1, 9, none⟩ = some (.int .u8 28)) :
    Calls Tryd.prog 53 #[.int .u64 9] w fun e w' => e = .returned (.string (tokWord 9)) ∧ ∃ m, w' = w.drewN m := by
  go_enter Tryd.func53, Tryd.ntmps53
  go_wp2_with fail
  go_quiet (fail)
  go_wp2_with fail
  go_ret
  exact ⟨rfl, _, rfl⟩
theorem tokS_10 (w : World) (c1 : w.cell? ⟨1, 9, none⟩ = some (.int .u8 28)) (c2 : w.cell? ⟨1, 10, none⟩ = some (.int .u8 29)) :
    Calls Tryd.prog 53 #[.int .u64 10] w fun e w' => e = .returned (.string (tokWord 10)) ∧ ∃ m, w' = w.drewN m := by
  go_enter Tryd.func53, Tryd.ntmps53
  go_wp2_with fail
  go_quiet (fail)
  go_wp2_with fail
  go_ret
  exact ⟨rfl, _, rfl⟩
theorem tokS_11 (w : World) (c1 : w.cell? ⟨1, 10, none⟩ = some (.int .u8 29)) (c2 : w.cell? ⟨1, 11, none⟩ = some (.int .u8 30)) :
    Calls Tryd.prog 53 #[.int .u64 11] w fun e w' => e = .returned (.string (tokWord 11)) ∧ ∃ m, w' = w.drewN m := by
  go_enter Tryd.func53, Tryd.ntmps53
  go_wp2_with fail
  go_quiet (fail)
  go_wp2_with fail
  go_ret
  exact ⟨rfl, _, rfl⟩
theorem tokS_12 (w : World) (c1 : w.cell? ⟨1, 11, none⟩ = some (.int .u8 30)) (c2 : w.cell? ⟨1, 12, none⟩ = some (.int .u8 31)) :
    Calls Tryd.prog 53 #[.int .u64 12] w fun e w' => e = .returned (.string (tokWord 12)) ∧ ∃ m, w' = w.drewN m := by
  go_enter Tryd.func53, Tryd.ntmps53
  go_wp2_with fail
  go_quiet (fail)
  go_wp2_with fail
  go_ret
  exact ⟨rfl, _, rfl⟩
theorem tokS_13 (w : World) (c1 : w.cell? ⟨1, 12, none⟩ = some (.int .u8 31)) (c2 : w.cell? ⟨1, 13, none⟩ = some (.int .u8 32)) :
    Calls Tryd.prog 53 #[.int .u64 13] w fun e w' => e = .returned (.string (tokWord 13)) ∧ ∃ m, w' = w.drewN m := by
  go_enter Tryd.func53, Tryd.ntmps53
  go_wp2_with fail
  go_quiet (fail)
  go_wp2_with fail
  go_ret
  exact ⟨rfl, _, rfl⟩
theorem tokS_14 (w : World) (c1 : w.cell? ⟨1, 13, none⟩ = some (.int .u8 32)) (c2 : w.cell? ⟨1, 14, none⟩ = some (.int .u8 33)) :
    Calls Tryd.prog 53 #[.int .u64 14] w fun e w' => e = .returned (.string (tokWord 14)) ∧ ∃ m, w' = w.drewN m := by
  go_enter Tryd.func53, Tryd.ntmps53
  go_wp2_with fail
  go_quiet (fail)
  go_wp2_with fail
  go_ret
  exact ⟨rfl, _, rfl⟩
theorem tokS_15 (w : World) (c1 : w.cell? ⟨1, 14, none⟩ = some (.int .u8 33)) (c2 : w.cell? ⟨1, 15, none⟩ = some (.int .u8 34)) :
    Calls Tryd.prog 53 #[.int .u64 15] w fun e w' => e = .returned (.string (tokWord 15)) ∧ ∃ m, w' = w.drewN m := by
  go_enter Tryd.func53, Tryd.ntmps53
  go_wp2_with fail
  go_quiet (fail)
  go_wp2_with fail
  go_ret
  exact ⟨rfl, _, rfl⟩
theorem tokS_16 (w : World) (c1 : w.cell? ⟨1, 15, none⟩ = some (.int .u8 34)) (c2 : w.cell? ⟨1, 16, none⟩ = some (.int .u8 35)) :
    Calls Tryd.prog 53 #[.int .u64 16] w fun e w' => e = .returned (.string (tokWord 16)) ∧ ∃ m, w' = w.drewN m := by
  go_enter Tryd.func53, Tryd.ntmps53
  go_wp2_with fail
  go_quiet (fail)
  go_wp2_with fail
  go_ret
  exact ⟨rfl, _, rfl⟩
theorem tokS_17 (w : World) (c1 : w.cell? ⟨1, 16, none⟩ = some (.int .u8 35)) (c2 : w.cell? ⟨1, 17, none⟩ = some (.int .u8 36)) :
    Calls Tryd.prog 53 #[.int .u64 17] w fun e w' => e = .returned (.string (tokWord 17)) ∧ ∃ m, w' = w.drewN m := by
  go_enter Tryd.func53, Tryd.ntmps53
  go_wp2_with fail
  go_quiet (fail)
  go_wp2_with fail
  go_ret
  exact ⟨rfl, _, rfl⟩
theorem tokS_18 (w : World) (c1 : w.cell? ⟨1, 17, none⟩ = some (.int .u8 36)) (c2 : w.cell? ⟨1, 18, none⟩ = some (.int .u8 37)) :
    Calls Tryd.prog 53 #[.int .u64 18] w fun e w' => e = .returned (.string (tokWord 18)) ∧ ∃ m, w' = w.drewN m := by
  go_enter Tryd.func53, Tryd.ntmps53
  go_wp2_with fail
  go_quiet (fail)
  go_wp2_with fail
  go_ret
  exact ⟨rfl, _, rfl⟩
theorem tokS_19 (w : World) (c1 : w.cell? ⟨1, 18, none⟩ = some (.int .u8 37)) (c2 : w.cell? ⟨1, 19, none⟩ = some (.int .u8 38)) :
    Calls Tryd.prog 53 #[.int .u64 19] w fun e w' => e = .returned (.string (tokWord 19)) ∧ ∃ m, w' = w.drewN m := by
  go_enter Tryd.func53, Tryd.ntmps53
  go_wp2_with fail
  go_quiet (fail)
  go_wp2_with fail
  go_ret
  exact ⟨rfl, _, rfl⟩
theorem tokS_20 (w : World) (c1 : w.cell? ⟨1, 19, none⟩ = some (.int .u8 38)) (c2 : w.cell? ⟨1, 20, none⟩ = some (.int .u8 39)) :
    Calls Tryd.prog 53 #[.int .u64 20] w fun e w' => e = .returned (.string (tokWord 20)) ∧ ∃ m, w' = w.drewN m := by
  go_enter Tryd.func53, Tryd.ntmps53
  go_wp2_with fail
  go_quiet (fail)
  go_wp2_with fail
  go_ret
  exact ⟨rfl, _, rfl⟩
theorem tokS_21 (w : World) (c1 : w.cell? ⟨1, 20, none⟩ = some (.int .u8 39)) (c2 : w.cell? ⟨1, 21, none⟩ = some (.int .u8 42)) :
    Calls Tryd.prog 53 #[.int .u64 21] w fun e w' => e = .returned (.string (tokWord 21)) ∧ ∃ m, w' = w.drewN m := by
  go_enter Tryd.func53, Tryd.ntmps53
  go_wp2_with fail
  go_quiet (fail)
  go_wp2_with fail
  go_ret
  exact ⟨rfl, _, rfl⟩
theorem tokS_22 (w : World) (c1 : w.cell? ⟨1, 21, none⟩ = some (.int .u8 42)) (c2 : w.cell? ⟨1, 22, none⟩ = some (.int .u8 47)) :
    Calls Tryd.prog 53 #[.int .u64 22] w fun e w' => e = .returned (.string (tokWord 22)) ∧ ∃ m, w' = w.drewN m := by
  go_enter Tryd.func53, Tryd.ntmps53
  go_wp2_with fail
  go_quiet (fail)
  go_wp2_with fail
  go_ret
  exact ⟨rfl, _, rfl⟩
theorem tokS_23 (w : World) (c1 : w.cell? ⟨1, 22, none⟩ = some (.int .u8 47)) (c2 : w.cell? ⟨1, 23, none⟩ = some (.int .u8 51)) :
    Calls Tryd.prog 53 #[.int .u64 23] w fun e w' => e = .returned (.string (tokWord 23)) ∧ ∃ m, w' = w.drewN m := by
  go_enter Tryd.func53, Tryd.ntmps53
  go_wp2_with fail
  go_quiet (fail)
  go_wp2_with fail
  go_ret
  exact ⟨rfl, _, rfl⟩
theorem tokS_24 (w : World) (c1 : w.cell? ⟨1, 23, none⟩ = some (.int .u8 51)) (c2 : w.cell? ⟨1, 24, none⟩ = some (.int .u8 55)) :
    Calls Tryd.prog 53 #[.int .u64 24] w fun e w' => e = .returned (.string (tokWord 24)) ∧ ∃ m, w' = w.drewN m := by
  go_enter Tryd.func53, Tryd.ntmps53
  go_wp2_with fail
  go_quiet (fail)
  go_wp2_with fail
  go_ret
  exact ⟨rfl, _, rfl⟩
theorem tokS_25 (w : World) (c1 : w.cell? ⟨1, 24, none⟩ = some (.int .u8 55)) (c2 : w.cell? ⟨1, 25, none⟩ = some (.int .u8 60)) :
    Calls Tryd.prog 53 #[.int .u64 25] w fun e w' => e = .returned (.string (tokWord 25)) ∧ ∃ m, w' = w.drewN m := by
  go_enter Tryd.func53, Tryd.ntmps53
  go_wp2_with fail
  go_quiet (fail)
  go_wp2_with fail
  go_ret
  exact ⟨rfl, _, rfl⟩
theorem tokS_26 (w : World) (c1 : w.cell? ⟨1, 25, none⟩ = some (.int .u8 60)) (c2 : w.cell? ⟨1, 26, none⟩ = some (.int .u8 68)) :
    Calls Tryd.prog 53 #[.int .u64 26] w fun e w' => e = .returned (.string (tokWord 26)) ∧ ∃ m, w' = w.drewN m := by
  go_enter Tryd.func53, Tryd.ntmps53
  go_wp2_with fail
  go_quiet (fail)
  go_wp2_with fail
  go_ret
  exact ⟨rfl, _, rfl⟩
theorem tokS_27 (w : World) (c1 : w.cell? ⟨1, 26, none⟩ = some (.int .u8 68)) (c2 : w.cell? ⟨1, 27, none⟩ = some (.int .u8 75)) :
    Calls Tryd.prog 53 #[.int .u64 27] w fun e w' => e = .returned (.string (tokWord 27)) ∧ ∃ m, w' = w.drewN m := by
  go_enter Tryd.func53, Tryd.ntmps53
  go_wp2_with fail
  go_quiet (fail)
  go_wp2_with fail
  go_ret
  exact ⟨rfl, _, rfl⟩
theorem tokS_28 (w : World) (c1 : w.cell? ⟨1, 27, none⟩ = some (.int .u8 75)) (c2 : w.cell? ⟨1, 28, none⟩ = some (.int .u8 80)) :
    Calls Tryd.prog 53 #[.int .u64 28] w fun e w' => e = .returned (.string (tokWord 28)) ∧ ∃ m, w' = w.drewN m := by
  go_enter Tryd.func53, Tryd.ntmps53
  go_wp2_with fail
  go_quiet (fail)
  go_wp2_with fail
  go_ret
  exact ⟨rfl, _, rfl⟩
theorem tokS_29 (w : World) (c1 : w.cell? ⟨1, 28, none⟩ = some (.int .u8 80)) (c2 : w.cell? ⟨1, 29, none⟩ = some (.int .u8 84)) :
    Calls Tryd.prog 53 #[.int .u64 29] w fun e w' => e = .returned (.string (tokWord 29)) ∧ ∃ m, w' = w.drewN m := by
  go_enter Tryd.func53, Tryd.ntmps53
  go_wp2_with fail
  go_quiet (fail)
  go_wp2_with fail
  go_ret
  exact ⟨rfl, _, rfl⟩
theorem tokS_30 (w : World) (c1 : w.cell? ⟨1, 29, none⟩ = some (.int .u8 84)) (c2 : w.cell? ⟨1, 30, none⟩ = some (.int .u8 95)) :
    Calls Tryd.prog 53 #[.int .u64 30] w fun e w' => e = .returned (.string (tokWord 30)) ∧ ∃ m, w' = w.drewN m := by
  go_enter Tryd.func53, Tryd.ntmps53
  go_wp2_with fail
  go_quiet (fail)
  go_wp2_with fail
  go_ret
  exact ⟨rfl, _, rfl⟩
theorem tokS_31 (w : World) (c1 : w.cell? ⟨1, 30, none⟩ = some (.int .u8 95)) (c2 : w.cell? ⟨1, 31, none⟩ = some (.int .u8 98)) :
    Calls Tryd.prog 53 #[.int .u64 31] w fun e w' => e = .returned (.string (tokWord 31)) ∧ ∃ m, w' = w.drewN m := by
  go_enter Tryd.func53, Tryd.ntmps53
  go_wp2_with fail
  go_quiet (fail)
  go_wp2_with fail
  go_ret
  exact ⟨rfl, _, rfl⟩
theorem tokS_32 (w : World) (c1 : w.cell? ⟨1, 31, none⟩ = some (.int .u8 98)) (c2 : w.cell? ⟨1, 32, none⟩ = some (.int .u8 102)) :
    Calls Tryd.prog 53 #[.int .u64 32] w fun e w' => e = .returned (.string (tokWord 32)) ∧ ∃ m, w' = w.drewN m := by
  go_enter Tryd.func53, Tryd.ntmps53
  go_wp2_with fail
  go_quiet (fail)
  go_wp2_with fail
  go_ret
  exact ⟨rfl, _, rfl⟩
theorem tokS_33 (w : World) (c1 : w.cell? ⟨1, 32, none⟩ = some (.int .u8 102)) (c2 : w.cell? ⟨1, 33, none⟩ = some (.int .u8 104)) :
    Calls Tryd.prog 53 #[.int .u64 33] w fun e w' => e = .returned (.string (tokWord 33)) ∧ ∃ m, w' = w.drewN m := by
  go_enter Tryd.func53, Tryd.ntmps53
  go_wp2_with fail
  go_quiet (fail)
  go_wp2_with fail
  go_ret
  exact ⟨rfl, _, rfl⟩
theorem tokS_34 (w : World) (c1 : w.cell? ⟨1, 33, none⟩ = some (.int .u8 104)) (c2 : w.cell? ⟨1, 34, none⟩ = some (.int .u8 108)) :
    Calls Tryd.prog 53 #[.int .u64 34] w fun e w' => e = .returned (.string (tokWord 34)) ∧ ∃ m, w' = w.drewN m := by
  go_enter Tryd.func53, Tryd.ntmps53
  go_wp2_with fail
  go_quiet (fail)
  go_wp2_with fail
  go_ret
  exact ⟨rfl, _, rfl⟩
theorem tokS_35 (w : World) (c1 : w.cell? ⟨1, 34, none⟩ = some (.int .u8 108)) (c2 : w.cell? ⟨1, 35, none⟩ = some (.int .u8 110)) :
    Calls Tryd.prog 53 #[.int .u64 35] w fun e w' => e = .returned (.string (tokWord 35)) ∧ ∃ m, w' = w.drewN m := by
  go_enter Tryd.func53, Tryd.ntmps53
  go_wp2_with fail
  go_quiet (fail)
  go_wp2_with fail
  go_ret
  exact ⟨rfl, _, rfl⟩
theorem tokS_36 (w : World) (c1 : w.cell? ⟨1, 35, none⟩ = some (.int .u8 110)) (c2 : w.cell? ⟨1, 36, none⟩ = some (.int .u8 116)) :
    Calls Tryd.prog 53 #[.int .u64 36] w fun e w' => e = .returned (.string (tokWord 36)) ∧ ∃ m, w' = w.drewN m := by
  go_enter Tryd.func53, Tryd.ntmps53
  go_wp2_with fail
  go_quiet (fail)
  go_wp2_with fail
  go_ret
  exact ⟨rfl, _, rfl⟩
theorem tokS_37 (w : World) (c1 : w.cell? ⟨1, 36, none⟩ = some (.int .u8 116)) (c2 : w.cell? ⟨1, 37, none⟩ = some (.int .u8 125)) :
    Calls Tryd.prog 53 #[.int .u64 37] w fun e w' => e = .returned (.string (tokWord 37)) ∧ ∃ m, w' = w.drewN m := by
  go_enter Tryd.func53, Tryd.ntmps53
  go_wp2_with fail
  go_quiet (fail)
  go_wp2_with fail
  go_ret
  exact ⟨rfl, _, rfl⟩
theorem tokS_38 (w : World) (c1 : w.cell? ⟨1, 37, none⟩ = some (.int .u8 125)) (c2 : w.cell? ⟨1, 38, none⟩ = some (.int .u8 128)) :
    Calls Tryd.prog 53 #[.int .u64 38] w fun e w' => e = .returned (.string (tokWord 38)) ∧ ∃ m, w' = w.drewN m := by
  go_enter Tryd.func53, Tryd.ntmps53
  go_wp2_with fail
  go_quiet (fail)
  go_wp2_with fail
  go_ret
  exact ⟨rfl, _, rfl⟩
theorem tokS_39 (w : World) (c1 : w.cell? ⟨1, 38, none⟩ = some (.int .u8 128)) (c2 : w.cell? ⟨1, 39, none⟩ = some (.int .u8 135)) :
    Calls Tryd.prog 53 #[.int .u64 39] w fun e w' => e = .returned (.string (tokWord 39)) ∧ ∃ m, w' = w.drewN m := by
  go_enter Tryd.func53, Tryd.ntmps53
  go_wp2_with fail
  go_quiet (fail)
  go_wp2_with fail
  go_ret
  exact ⟨rfl, _, rfl⟩
theorem tokS_40 (w : World) (c1 : w.cell? ⟨1, 39, none⟩ = some (.int .u8 135)) (c2 : w.cell? ⟨1, 40, none⟩ = some (.int .u8 140)) :
    Calls Tryd.prog 53 #[.int .u64 40] w fun e w' => e = .returned (.string (tokWord 40)) ∧ ∃ m, w' = w.drewN m := by
  go_enter Tryd.func53, Tryd.ntmps53
  go_wp2_with fail
  go_quiet (fail)
  go_wp2_with fail
  go_ret
  exact ⟨rfl, _, rfl⟩
theorem tokS_41 (w : World) (c1 : w.cell? ⟨1, 40, none⟩ = some (.int .u8 140)) (c2 : w.cell? ⟨1, 41, none⟩ = some (.int .u8 146)) :
    Calls Tryd.prog 53 #[.int .u64 41] w fun e w' => e = .returned (.string (tokWord 41)) ∧ ∃ m, w' = w.drewN m := by
  go_enter Tryd.func53, Tryd.ntmps53
  go_wp2_with fail
  go_quiet (fail)
  go_wp2_with fail
  go_ret
  exact ⟨rfl, _, rfl⟩
theorem tokS_42 (w : World) (c1 : w.cell? ⟨1, 41, none⟩ = some (.int .u8 146)) (c2 : w.cell? ⟨1, 42, none⟩ = some (.int .u8 152)) :
    Calls Tryd.prog 53 #[.int .u64 42] w fun e w' => e = .returned (.string (tokWord 42)) ∧ ∃ m, w' = w.drewN m := by
  go_enter Tryd.func53, Tryd.ntmps53
  go_wp2_with fail
  go_quiet (fail)
  go_wp2_with fail
  go_ret
  exact ⟨rfl, _, rfl⟩
theorem tokS_43 (w : World) (c1 : w.cell? ⟨1, 42, none⟩ = some (.int .u8 152)) (c2 : w.cell? ⟨1, 43, none⟩ = some (.int .u8 158)) :
    Calls Tryd.prog 53 #[.int .u64 43] w fun e w' => e = .returned (.string (tokWord 43)) ∧ ∃ m, w' = w.drewN m := by
  go_enter Tryd.func53, Tryd.ntmps53
  go_wp2_with fail
  go_quiet (fail)
  go_wp2_with fail
  go_ret
  exact ⟨rfl, _, rfl⟩
theorem tokS_44 (w : World) (c1 : w.cell? ⟨1, 43, none⟩ = some (.int .u8 158)) (c2 : w.cell? ⟨1, 44, none⟩ = some (.int .u8 164)) :
    Calls Tryd.prog 53 #[.int .u64 44] w fun e w' => e = .returned (.string (tokWord 44)) ∧ ∃ m, w' = w.drewN m := by
  go_enter Tryd.func53, Tryd.ntmps53
  go_wp2_with fail
  go_quiet (fail)
  go_wp2_with fail
  go_ret
  exact ⟨rfl, _, rfl⟩
theorem tokS_45 (w : World) (c1 : w.cell? ⟨1, 44, none⟩ = some (.int .u8 164)) (c2 : w.cell? ⟨1, 45, none⟩ = some (.int .u8 168)) :
    Calls Tryd.prog 53 #[.int .u64 45] w fun e w' => e = .returned (.string (tokWord 45)) ∧ ∃ m, w' = w.drewN m := by
  go_enter Tryd.func53, Tryd.ntmps53
  go_wp2_with fail
  go_quiet (fail)
  go_wp2_with fail
  go_ret
  exact ⟨rfl, _, rfl⟩
theorem tokS_46 (w : World) (c1 : w.cell? ⟨1, 45, none⟩ = some (.int .u8 168)) (c2 : w.cell? ⟨1, 46, none⟩ = some (.int .u8 171)) :
    Calls Tryd.prog 53 #[.int .u64 46] w fun e w' => e = .returned (.string (tokWord 46)) ∧ ∃ m, w' = w.drewN m := by
  go_enter Tryd.func53, Tryd.ntmps53
  go_wp2_with fail
  go_quiet (fail)
  go_wp2_with fail
  go_ret
  exact ⟨rfl, _, rfl⟩
theorem tokS_47 (w : World) (c1 : w.cell? ⟨1, 46, none⟩ = some (.int .u8 171)) (c2 : w.cell? ⟨1, 47, none⟩ = some (.int .u8 171)) :
    Calls Tryd.prog 53 #[.int .u64 47] w fun e w' => e = .returned (.string (tokWord 47)) ∧ ∃ m, w' = w.drewN m := by
  go_enter Tryd.func53, Tryd.ntmps53
  go_wp2_with fail
  go_quiet (fail)
  go_wp2_with fail
  go_ret
  exact ⟨rfl, _, rfl⟩
theorem opS_1 (w : World) (c1 : w.cell? ⟨2, 0, none⟩ = some (.int .u8 0)) (c2 : w.cell? ⟨2, 1, none⟩ = some (.int .u8 1)) :
    Calls Tryd.prog 54 #[.int .u64 1] w fun e w' => e = .returned (.string (opWord 1)) ∧ ∃ m, w' = w.drewN m := by
  go_enter Tryd.func54, Tryd.ntmps54
  go_wp2_with fail
  go_quiet (fail)
  go_wp2_with fail
  go_ret
  exact ⟨rfl, _, rfl⟩
theorem opS_2 (w : World) (c1 : w.cell? ⟨2, 1, none⟩ = some (.int .u8 1)) (c2 : w.cell? ⟨2, 2, none⟩ = some (.int .u8 2)) :
    Calls Tryd.prog 54 #[.int .u64 2] w fun e w' => e = .returned (.string (opWord 2)) ∧ ∃ m, w' = w.drewN m := by
  go_enter Tryd.func54, Tryd.ntmps54
  go_wp2_with fail
  go_quiet (fail)
  go_wp2_with fail
  go_ret
  exact ⟨rfl, _, rfl⟩
theorem opS_3 (w : World) (c1 : w.cell? ⟨2, 2, none⟩ = some (.int .u8 2)) (c2 : w.cell? ⟨2, 3, none⟩ = some (.int .u8 4)) :
    Calls Tryd.prog 54 #[.int .u64 3] w fun e w' => e = .returned (.string (opWord 3)) ∧ ∃ m, w' = w.drewN m := by
  go_enter Tryd.func54, Tryd.ntmps54
  go_wp2_with fail
  go_quiet (fail)
  go_wp2_with fail
  go_ret
  exact ⟨rfl, _, rfl⟩
theorem opS_4 (w : World) (c1 : w.cell? ⟨2, 3, none⟩ = some (.int .u8 4)) (c2 : w.cell? ⟨2, 4, none⟩ = some (.int .u8 5)) :
    Calls Tryd.prog 54 #[.int .u64 4] w fun e w' => e = .returned (.string (opWord 4)) ∧ ∃ m, w' = w.drewN m := by
  go_enter Tryd.func54, Tryd.ntmps54
  go_wp2_with fail
  go_quiet (fail)
  go_wp2_with fail
  go_ret
  exact ⟨rfl, _, rfl⟩
theorem opS_5 (w : World) (c1 : w.cell? ⟨2, 4, none⟩ = some (.int .u8 5)) (c2 : w.cell? ⟨2, 5, none⟩ = some (.int .u8 7)) :
    Calls Tryd.prog 54 #[.int .u64 5] w fun e w' => e = .returned (.string (opWord 5)) ∧ ∃ m, w' = w.drewN m := by
  go_enter Tryd.func54, Tryd.ntmps54
  go_wp2_with fail
  go_quiet (fail)
  go_wp2_with fail
  go_ret
  exact ⟨rfl, _, rfl⟩
theorem opS_6 (w : World) (c1 : w.cell? ⟨2, 5, none⟩ = some (.int .u8 7)) (c2 : w.cell? ⟨2, 6, none⟩ = some (.int .u8 9)) :
    Calls Tryd.prog 54 #[.int .u64 6] w fun e w' => e = .returned (.string (opWord 6)) ∧ ∃ m, w' = w.drewN m := by
  go_enter Tryd.func54, Tryd.ntmps54
  go_wp2_with fail
  go_quiet (fail)
  go_wp2_with fail
  go_ret
  exact ⟨rfl, _, rfl⟩
theorem opS_7 (w : World) (c1 : w.cell? ⟨2, 6, none⟩ = some (.int .u8 9)) (c2 : w.cell? ⟨2, 7, none⟩ = some (.int .u8 11)) :
    Calls Tryd.prog 54 #[.int .u64 7] w fun e w' => e = .returned (.string (opWord 7)) ∧ ∃ m, w' = w.drewN m := by
  go_enter Tryd.func54, Tryd.ntmps54
  go_wp2_with fail
  go_quiet (fail)
  go_wp2_with fail
  go_ret
  exact ⟨rfl, _, rfl⟩
theorem opS_8 (w : World) (c1 : w.cell? ⟨2, 7, none⟩ = some (.int .u8 11)) (c2 : w.cell? ⟨2, 8, none⟩ = some (.int .u8 13)) :
    Calls Tryd.prog 54 #[.int .u64 8] w fun e w' => e = .returned (.string (opWord 8)) ∧ ∃ m, w' = w.drewN m := by
  go_enter Tryd.func54, Tryd.ntmps54
  go_wp2_with fail
  go_quiet (fail)
  go_wp2_with fail
  go_ret
  exact ⟨rfl, _, rfl⟩
theorem opS_9 (w : World) (c1 : w.cell? ⟨2, 8, none⟩ = some (.int .u8 13)) (c2 : w.cell? ⟨2, 9, none⟩ = some (.int .u8 14)) :
    Calls Tryd.prog 54 #[.int .u64 9] w fun e w' => e = .returned (.string (opWord 9)) ∧ ∃ m, w' = w.drewN m := by
  go_enter Tryd.func54, Tryd.ntmps54
  go_wp2_with fail
  go_quiet (fail)
  go_wp2_with fail
  go_ret
  exact ⟨rfl, _, rfl⟩
theorem opS_10 (w : World) (c1 : w.cell? ⟨2, 9, none⟩ = some (.int .u8 14)) (c2 : w.cell? ⟨2, 10, none⟩ = some (.int .u8 16)) :
    Calls Tryd.prog 54 #[.int .u64 10] w fun e w' => e = .returned (.string (opWord 10)) ∧ ∃ m, w' = w.drewN m := by
  go_enter Tryd.func54, Tryd.ntmps54
  go_wp2_with fail
  go_quiet (fail)
  go_wp2_with fail
  go_ret
  exact ⟨rfl, _, rfl⟩
theorem opS_11 (w : World) (c1 : w.cell? ⟨2, 10, none⟩ = some (.int .u8 16)) (c2 : w.cell? ⟨2, 11, none⟩ = some (.int .u8 17)) :
    Calls Tryd.prog 54 #[.int .u64 11] w fun e w' => e = .returned (.string (opWord 11)) ∧ ∃ m, w' = w.drewN m := by
  go_enter Tryd.func54, Tryd.ntmps54
  go_wp2_with fail
  go_quiet (fail)
  go_wp2_with fail
  go_ret
  exact ⟨rfl, _, rfl⟩
theorem opS_12 (w : World) (c1 : w.cell? ⟨2, 11, none⟩ = some (.int .u8 17)) (c2 : w.cell? ⟨2, 12, none⟩ = some (.int .u8 19)) :
    Calls Tryd.prog 54 #[.int .u64 12] w fun e w' => e = .returned (.string (opWord 12)) ∧ ∃ m, w' = w.drewN m := by
  go_enter Tryd.func54, Tryd.ntmps54
  go_wp2_with fail
  go_quiet (fail)
  go_wp2_with fail
  go_ret
  exact ⟨rfl, _, rfl⟩
theorem opS_13 (w : World) (c1 : w.cell? ⟨2, 12, none⟩ = some (.int .u8 19)) (c2 : w.cell? ⟨2, 13, none⟩ = some (.int .u8 20)) :
    Calls Tryd.prog 54 #[.int .u64 13] w fun e w' => e = .returned (.string (opWord 13)) ∧ ∃ m, w' = w.drewN m := by
  go_enter Tryd.func54, Tryd.ntmps54
  go_wp2_with fail
  go_quiet (fail)
  go_wp2_with fail
  go_ret
  exact ⟨rfl, _, rfl⟩
theorem opS_14 (w : World) (c1 : w.cell? ⟨2, 13, none⟩ = some (.int .u8 20)) (c2 : w.cell? ⟨2, 14, none⟩ = some (.int .u8 21)) :
    Calls Tryd.prog 54 #[.int .u64 14] w fun e w' => e = .returned (.string (opWord 14)) ∧ ∃ m, w' = w.drewN m := by
  go_enter Tryd.func54, Tryd.ntmps54
  go_wp2_with fail
  go_quiet (fail)
  go_wp2_with fail
  go_ret
  exact ⟨rfl, _, rfl⟩
theorem opS_15 (w : World) (c1 : w.cell? ⟨2, 14, none⟩ = some (.int .u8 21)) (c2 : w.cell? ⟨2, 15, none⟩ = some (.int .u8 22)) :
    Calls Tryd.prog 54 #[.int .u64 15] w fun e w' => e = .returned (.string (opWord 15)) ∧ ∃ m, w' = w.drewN m := by
  go_enter Tryd.func54, Tryd.ntmps54
  go_wp2_with fail
  go_quiet (fail)
  go_wp2_with fail
  go_ret
  exact ⟨rfl, _, rfl⟩
theorem opS_16 (w : World) (c1 : w.cell? ⟨2, 15, none⟩ = some (.int .u8 22)) (c2 : w.cell? ⟨2, 16, none⟩ = some (.int .u8 23)) :
    Calls Tryd.prog 54 #[.int .u64 16] w fun e w' => e = .returned (.string (opWord 16)) ∧ ∃ m, w' = w.drewN m := by
  go_enter Tryd.func54, Tryd.ntmps54
  go_wp2_with fail
  go_quiet (fail)
  go_wp2_with fail
  go_ret
  exact ⟨rfl, _, rfl⟩
theorem opS_17 (w : World) (c1 : w.cell? ⟨2, 16, none⟩ = some (.int .u8 23)) (c2 : w.cell? ⟨2, 17, none⟩ = some (.int .u8 24)) :
    Calls Tryd.prog 54 #[.int .u64 17] w fun e w' => e = .returned (.string (opWord 17)) ∧ ∃ m, w' = w.drewN m := by
  go_enter Tryd.func54, Tryd.ntmps54
  go_wp2_with fail
  go_quiet (fail)
  go_wp2_with fail
  go_ret
  exact ⟨rfl, _, rfl⟩
theorem opS_18 (w : World) (c1 : w.cell? ⟨2, 17, none⟩ = some (.int .u8 24)) (c2 : w.cell? ⟨2, 18, none⟩ = some (.int .u8 25)) :
    Calls Tryd.prog 54 #[.int .u64 18] w fun e w' => e = .returned (.string (opWord 18)) ∧ ∃ m, w' = w.drewN m := by
  go_enter Tryd.func54, Tryd.ntmps54
  go_wp2_with fail
  go_quiet (fail)
  go_wp2_with fail
  go_ret
  exact ⟨rfl, _, rfl⟩
theorem opS_19 (w : World) (c1 : w.cell? ⟨2, 18, none⟩ = some (.int .u8 25)) (c2 : w.cell? ⟨2, 19, none⟩ = some (.int .u8 26)) :
    Calls Tryd.prog 54 #[.int .u64 19] w fun e w' => e = .returned (.string (opWord 19)) ∧ ∃ m, w' = w.drewN m := by
  go_enter Tryd.func54, Tryd.ntmps54
  go_wp2_with fail
  go_quiet (fail)
  go_wp2_with fail
  go_ret
  exact ⟨rfl, _, rfl⟩
theorem opS_20 (w : World) (c1 : w.cell? ⟨2, 19, none⟩ = some (.int .u8 26)) (c2 : w.cell? ⟨2, 20, none⟩ = some (.int .u8 27)) :
    Calls Tryd.prog 54 #[.int .u64 20] w fun e w' => e = .returned (.string (opWord 20)) ∧ ∃ m, w' = w.drewN m := by
  go_enter Tryd.func54, Tryd.ntmps54
  go_wp2_with fail
  go_quiet (fail)
  go_wp2_with fail
  go_ret
  exact ⟨rfl, _, rfl⟩
theorem opS_21 (w : World) (c1 : w.cell? ⟨2, 20, none⟩ = some (.int .u8 27)) (c2 : w.cell? ⟨2, 21, none⟩ = some (.int .u8 29)) :
    Calls Tryd.prog 54 #[.int .u64 21] w fun e w' => e = .returned (.string (opWord 21)) ∧ ∃ m, w' = w.drewN m := by
  go_enter Tryd.func54, Tryd.ntmps54
  go_wp2_with fail
  go_quiet (fail)
  go_wp2_with fail
  go_ret
  exact ⟨rfl, _, rfl⟩
theorem opS_22 (w : World) (c1 : w.cell? ⟨2, 21, none⟩ = some (.int .u8 29)) (c2 : w.cell? ⟨2, 22, none⟩ = some (.int .u8 31)) :
    Calls Tryd.prog 54 #[.int .u64 22] w fun e w' => e = .returned (.string (opWord 22)) ∧ ∃ m, w' = w.drewN m := by
  go_enter Tryd.func54, Tryd.ntmps54
  go_wp2_with fail
  go_quiet (fail)
  go_wp2_with fail
  go_ret
  exact ⟨rfl, _, rfl⟩
theorem opS_23 (w : World) (c1 : w.cell? ⟨2, 22, none⟩ = some (.int .u8 31)) (c2 : w.cell? ⟨2, 23, none⟩ = some (.int .u8 33)) :
    Calls Tryd.prog 54 #[.int .u64 23] w fun e w' => e = .returned (.string (opWord 23)) ∧ ∃ m, w' = w.drewN m := by
  go_enter Tryd.func54, Tryd.ntmps54
  go_wp2_with fail
  go_quiet (fail)
  go_wp2_with fail
  go_ret
  exact ⟨rfl, _, rfl⟩
theorem tokS_all (w : World) (h : ∀ i, i < 48 → w.cell? ⟨1, i, none⟩ = some (.int .u8 ([0, 3, 7, 14, 16, 19, 23, 24, 26, 28, 29, 30, 31, 32, 33, 34, 35, 36, 37, 38, 39, 42, 47, 51, 55, 60, 68, 75, 80, 84, 95, 98, 102, 104, 108, 110, 116, 125, 128, 135, 140, 146, 152, 158, 164, 168, 171, 171].getD i 0))) (t : Nat) (h1 : 1 ≤ t) (h2 : t ≤ 47) :
    Calls Tryd.prog 53 #[.int .u64 t] w fun e w' => e = .returned (.string (tokWord t)) ∧ ∃ m, w' = w.drewN m := by
  match t, h1, h2 with
  | 1, _, _ => exact tokS_1 w (h 0 (by decide)) (h 1 (by decide))
  | 2, _, _ => exact tokS_2 w (h 1 (by decide)) (h 2 (by decide))
  | 3, _, _ => exact tokS_3 w (h 2 (by decide)) (h 3 (by decide))
  | 4, _, _ => exact tokS_4 w (h 3 (by decide)) (h 4 (by decide))
  | 5, _, _ => exact tokS_5 w (h 4 (by decide)) (h 5 (by decide))
  | 6, _, _ => exact tokS_6 w (h 5 (by decide)) (h 6 (by decide))
  | 7, _, _ => exact tokS_7 w (h 6 (by decide)) (h 7 (by decide))
  | 8, _, _ => exact tokS_8 w (h 7 (by decide)) (h 8 (by decide))
  | 9, _, _ => exact tokS_9 w (h 8 (by decide)) (h 9 (by decide))
  | 10, _, _ => exact tokS_10 w (h 9 (by decide)) (h 10 (by decide))
  | 11, _, _ => exact tokS_11 w (h 10 (by decide)) (h 11 (by decide))
  | 12, _, _ => exact tokS_12 w (h 11 (by decide)) (h 12 (by decide))
  | 13, _, _ => exact tokS_13 w (h 12 (by decide)) (h 13 (by decide))
  | 14, _, _ => exact tokS_14 w (h 13 (by decide)) (h 14 (by decide))
  | 15, _, _ => exact tokS_15 w (h 14 (by decide)) (h 15 (by decide))
  | 16, _, _ => exact tokS_16 w (h 15 (by decide)) (h 16 (by decide))
  | 17, _, _ => exact tokS_17 w (h 16 (by decide)) (h 17 (by decide))
  | 18, _, _ => exact tokS_18 w (h 17 (by decide)) (h 18 (by decide))
  | 19, _, _ => exact tokS_19 w (h 18 (by decide)) (h 19 (by decide))
  | 20, _, _ => exact tokS_20 w (h 19 (by decide)) (h 20 (by decide))
  | 21, _, _ => exact tokS_21 w (h 20 (by decide)) (h 21 (by decide))
  | 22, _, _ => exact tokS_22 w (h 21 (by decide)) (h 22 (by decide))
  | 23, _, _ => exact tokS_23 w (h 22 (by decide)) (h 23 (by decide))
  | 24, _, _ => exact tokS_24 w (h 23 (by decide)) (h 24 (by decide))
  | 25, _, _ => exact tokS_25 w (h 24 (by decide)) (h 25 (by decide))
  | 26, _, _ => exact tokS_26 w (h 25 (by decide)) (h 26 (by decide))
  | 27, _, _ => exact tokS_27 w (h 26 (by decide)) (h 27 (by decide))
  | 28, _, _ => exact tokS_28 w (h 27 (by decide)) (h 28 (by decide))
  | 29, _, _ => exact tokS_29 w (h 28 (by decide)) (h 29 (by decide))
  | 30, _, _ => exact tokS_30 w (h 29 (by decide)) (h 30 (by decide))
  | 31, _, _ => exact tokS_31 w (h 30 (by decide)) (h 31 (by decide))
  | 32, _, _ => exact tokS_32 w (h 31 (by decide)) (h 32 (by decide))
  | 33, _, _ => exact tokS_33 w (h 32 (by decide)) (h 33 (by decide))
  | 34, _, _ => exact tokS_34 w (h 33 (by decide)) (h 34 (by decide))
  | 35, _, _ => exact tokS_35 w (h 34 (by decide)) (h 35 (by decide))
  | 36, _, _ => exact tokS_36 w (h 35 (by decide)) (h 36 (by decide))
  | 37, _, _ => exact tokS_37 w (h 36 (by decide)) (h 37 (by decide))
  | 38, _, _ => exact tokS_38 w (h 37 (by decide)) (h 38 (by decide))
  | 39, _, _ => exact tokS_39 w (h 38 (by decide)) (h 39 (by decide))
  | 40, _, _ => exact tokS_40 w (h 39 (by decide)) (h 40 (by decide))
  | 41, _, _ => exact tokS_41 w (h 40 (by decide)) (h 41 (by decide))
  | 42, _, _ => exact tokS_42 w (h 41 (by decide)) (h 42 (by decide))
  | 43, _, _ => exact tokS_43 w (h 42 (by decide)) (h 43 (by decide))
  | 44, _, _ => exact tokS_44 w (h 43 (by decide)) (h 44 (by decide))
  | 45, _, _ => exact tokS_45 w (h 44 (by decide)) (h 45 (by decide))
  | 46, _, _ => exact tokS_46 w (h 45 (by decide)) (h 46 (by decide))
  | 47, _, _ => exact tokS_47 w (h 46 (by decide)) (h 47 (by decide))
  | n + 48, _, h2 => exact absurd h2 (by omega)
theorem opS_all (w : World) (h : ∀ i, i < 24 → w.cell? ⟨2, i, none⟩ = some (.int .u8 ([0, 1, 2, 4, 5, 7, 9, 11, 13, 14, 16, 17, 19, 20, 21, 22, 23, 24, 25, 26, 27, 29, 31, 33].getD i 0))) (t : Nat) (h1 : 1 ≤ t) (h2 : t ≤ 23) :
    Calls Tryd.prog 54 #[.int .u64 t] w fun e w' => e = .returned (.string (opWord t)) ∧ ∃ m, w' = w.drewN m := by
  match t, h1, h2 with
  | 1, _, _ => exact opS_1 w (h 0 (by decide)) (h 1 (by decide))
  | 2, _, _ => exact opS_2 w (h 1 (by decide)) (h 2 (by decide))
  | 3, _, _ => exact opS_3 w (h 2 (by decide)) (h 3 (by decide))
  | 4, _, _ => exact opS_4 w (h 3 (by decide)) (h 4 (by decide))
  | 5, _, _ => exact opS_5 w (h 4 (by decide)) (h 5 (by decide))
  | 6, _, _ => exact opS_6 w (h 5 (by decide)) (h 6 (by decide))
  | 7, _, _ => exact opS_7 w (h 6 (by decide)) (h 7 (by decide))
  | 8, _, _ => exact opS_8 w (h 7 (by decide)) (h 8 (by decide))
  | 9, _, _ => exact opS_9 w (h 8 (by decide)) (h 9 (by decide))
  | 10, _, _ => exact opS_10 w (h 9 (by decide)) (h 10 (by decide))
  | 11, _, _ => exact opS_11 w (h 10 (by decide)) (h 11 (by decide))
  | 12, _, _ => exact opS_12 w (h 11 (by decide)) (h 12 (by decide))
  | 13, _, _ => exact opS_13 w (h 12 (by decide)) (h 13 (by decide))
  | 14, _, _ => exact opS_14 w (h 13 (by decide)) (h 14 (by decide))
  | 15, _, _ => exact opS_15 w (h 14 (by decide)) (h 15 (by decide))
  | 16, _, _ => exact opS_16 w (h 15 (by decide)) (h 16 (by decide))
  | 17, _, _ => exact opS_17 w (h 16 (by decide)) (h 17 (by decide))
  | 18, _, _ => exact opS_18 w (h 17 (by decide)) (h 18 (by decide))
  | 19, _, _ => exact opS_19 w (h 18 (by decide)) (h 19 (by decide))
  | 20, _, _ => exact opS_20 w (h 19 (by decide)) (h 20 (by decide))
  | 21, _, _ => exact opS_21 w (h 20 (by decide)) (h 21 (by decide))
  | 22, _, _ => exact opS_22 w (h 21 (by decide)) (h 22 (by decide))
  | 23, _, _ => exact opS_23 w (h 22 (by decide)) (h 23 (by decide))
  | n + 24, _, h2 => exact absurd h2 (by omega)
end Sc
end Go.Proofs.YtogkcphobhhbdaaDoor

/- Operator.String at 0; the scanner's beginning. -/
namespace Go.Proofs.YtogkcphobhhbdaaDoor
open Go Go.RowKit Go.Lib
namespace Sc
set_option maxRecDepth 100000
def opZero : ByteArray := ByteArray.mk #[79, 112, 101, 114, 97, 116, 111, 114, 40, 48, 41]
theorem fmt_zero (w : World) : Calls Tryd.prog 85 #[.int .i64 0, .int .i64 10] w fun e w' => e = .returned (.string ⟨#[48]⟩) ∧ w' = w :=
  (Tryd.strconv_FormatInt_10_small 0 (by decide) w).mono (fun e w' h => ⟨h.1.trans (by simp [Lib.decDigits]), h.2⟩)
theorem opS_0 (w : World) : Calls Tryd.prog 54 #[.int .u64 0] w fun e w' => e = .returned (.string opZero) ∧ ∃ m, w' = w.drewN m := by
  go_enter Tryd.func54, Tryd.ntmps54
  go_wp2_with (go_at_call 85; refine (fmt_zero _).mono ?_; rintro e w' ⟨rfl, rfl⟩)
  go_ret
  exact ⟨rfl, 0, rfl⟩
/-- The scanner's block as it is made. -/
def zeroCells : Array Value := #[.nilIface, .nilFunc, .slice none 0 0, .nilIface, .int .i64 0, .int .i64 0, .int .i64 0, .int .u64 0, .int .u64 0, .int .i32 0, .int .i64 0,
  .int .u64 0, .bool false, .int .u64 0, .int .u64 0, .bool false, .int .u64 0, .string ByteArray.empty, .bool false, .int .u8 0, .int .u64 0, .int .i64 0]
end Sc
end Go.Proofs.YtogkcphobhhbdaaDoor

/- The scanner's beginning: source.init walked. -/
namespace Go.Proofs.YtogkcphobhhbdaaDoor
open Go Go.RowKit Go.Lib
namespace Sc
set_option maxRecDepth 100000
theorem run_store_func {P : Program} (w : World) (a : Addr) (f : Fn) (x y : Array Value) (m : Mode) : (store a (.func f x y) m).run P w = stored P w a (.func f x y) m := run_store P w a _ m rfl
theorem eq_nilSlice (w : World) : (binOp .eql 45 (.slice none 0 0) (.slice none 0 0)).run Tryd.prog w = .ok (.bool true) w := by
  have h : ∀ d, (Op.equalIn (d + 1) 45 (.slice none 0 0) (.slice none 0 0)).run Tryd.prog w = .ok true w := fun d => by
    rw [Op.equalIn]
    simp [go_sem]
  have := h 9999
  simp only [binOp, Op.equal, Op.maxDepth, Sem.run_bind]
  rw [this]; rfl
theorem nsz_walk (w : World) : Calls Tryd.prog 91 #[.int .i64 0] w fun e w' => e = .returned (.int .i64 4096) ∧ w' = w := by
  go_enter Tryd.func91, Tryd.ntmps91
  go_wp2
  go_ret
  exact ⟨rfl, rfl⟩
def zbuf : Array Value := madeCells #[.int .u8 0] 4096
theorem info_u8 : (Tryd.prog.info? 5).map (fun i => (i.zero, i.size, i.bytes)) = some (some (.int .u8 0), 1, 1) := by kernel_rfl
theorem mk_buf (w : World) : (Instr.makeSlice 45 (.int .i64 4096) (.int .i64 4096)).run Tryd.prog w = .ok (.slice (some ⟨w.heap.size, 0, none⟩) 4096 4096) (w.alloc (.cells zbuf 5)) := by
  obtain ⟨i0, hi, hz0, hz1, hz2⟩ := info_parts info_u8
  have := run_make w 45 5 i0 _ Tryd.underlying45 hi hz0 .i64 .i64 4096 4096 (by decide) (by decide) (by rw [hz2]; decide) (by decide)
  rw [this, hz1]
  rfl
/-- What source.init writes. -/
def srcW (w : World) (s rd e : Nat) : World :=
  ((((((((((w.setCell ⟨s, 0, none⟩ (.iface 91 (.pointer (some ⟨rd, 0, none⟩)))).setCell ⟨s, 1, none⟩ (.func (.func 51) #[] #[.pointer (some ⟨e, 0, none⟩)])).setCell ⟨s, 2, none⟩ (.slice (some ⟨w.heap.size, 0, none⟩) 4096 4096)).setCell
    ⟨s, 3, none⟩ .nilIface).setCell ⟨s, 4, none⟩ (.int .i64 (-1))).setCell ⟨s, 5, none⟩ (.int .i64 0)).setCell ⟨s, 6, none⟩ (.int .i64 0)).setCell ⟨s, 7, none⟩ (.int .u64 0)).setCell ⟨s, 8, none⟩ (.int .u64 0)).setCell ⟨s, 9, none⟩ (.int .i32 32)).setCell ⟨s, 10, none⟩ (.int .i64 0)
def initW (w : World) (s rd e : Nat) : World := (srcW w s rd e).alloc (.cells (zbuf.setIfInBounds 0 (.int .u8 128)) 5)
theorem srcInit_walk (w : World) (s rd e : Nat) (hs : w.heap[s]? = some (.cells zeroCells 89 (0, 0))) :
    Calls Tryd.prog 68 #[.pointer (some ⟨s, 0, none⟩), .iface 91 (.pointer (some ⟨rd, 0, none⟩)), .func (.func 51) #[] #[.pointer (some ⟨e, 0, none⟩)]] w fun en w' => en = .returned (.tuple #[]) ∧ w' = initW w s rd e := by
  have c0 := cell_of_block hs (o := 0) (v := .nilIface) rfl
  have c1 := cell_of_block hs (o := 1) (v := .nilFunc) rfl
  have c2 := cell_of_block hs (o := 2) (v := .slice none 0 0) rfl
  have c3 := cell_of_block hs (o := 3) (v := .nilIface) rfl
  have c4 := cell_of_block hs (o := 4) (v := .int .i64 0) rfl
  have c5 := cell_of_block hs (o := 5) (v := .int .i64 0) rfl
  have c6 := cell_of_block hs (o := 6) (v := .int .i64 0) rfl
  have c7 := cell_of_block hs (o := 7) (v := .int .u64 0) rfl
  have c8 := cell_of_block hs (o := 8) (v := .int .u64 0) rfl
  have c9 := cell_of_block hs (o := 9) (v := .int .i32 0) rfl
  have c10 := cell_of_block hs (o := 10) (v := .int .i64 0) rfl
  have fr : ∀ o, w.frozen? ⟨s, o, none⟩ = false := fun o => free_of_block hs
  have hlt : s < w.heap.size := (Array.getElem?_eq_some_iff.1 hs).1
  have z0 : zbuf[0]? = some (.int .u8 0) := by simp [zbuf, madeCells]
  clear hs
  go_enter Tryd.func68, Tryd.ntmps68
  go_wp2_with (first | (rw [run_store_func]; go_simp) | (rw [eq_nilSlice]; go_simp) | (refine (nsz_walk _).mono ?_; rintro e w' ⟨rfl, rfl⟩) | (rw [mk_buf]; go_simp))
  go_end0
  exact ⟨rfl, rfl⟩
end Sc
end Go.Proofs.YtogkcphobhhbdaaDoor

/- The scanner's beginning: scanner.init, bytes.NewReader. -/
namespace Go.Proofs.YtogkcphobhhbdaaDoor
open Go Go.RowKit Go.Lib
namespace Sc
set_option maxRecDepth 100000
theorem cell_of_block' {w : World} {b o : Nat} {c : Array Value} {t : TypeId} {f : Nat × Nat} (h : w.heap[b]? = some (.cells c t f)) : w.cell? ⟨b, o, none⟩ = c[o]? := by
  simp [World.cell?, h]
theorem initW_size (w : World) (s rd e : Nat) : (initW w s rd e).heap.size = w.heap.size + 1 := by simp [initW, srcW]
theorem srcW_size (w : World) (s rd e : Nat) : (srcW w s rd e).heap.size = w.heap.size := by simp [srcW]
/-- The block once source.init is through. -/
def srcCells (buf rd e : Nat) : Array Value := #[.iface 91 (.pointer (some ⟨rd, 0, none⟩)), .func (.func 51) #[] #[.pointer (some ⟨e, 0, none⟩)], .slice (some ⟨buf, 0, none⟩) 4096 4096, .nilIface, .int .i64 (-1), .int .i64 0, .int .i64 0, .int .u64 0, .int .u64 0, .int .i32 32, .int .i64 0,
  .int .u64 0, .bool false, .int .u64 0, .int .u64 0, .bool false, .int .u64 0, .string ByteArray.empty, .bool false, .int .u8 0, .int .u64 0, .int .i64 0]
theorem srcW_block {w : World} {s rd e : Nat} (hs : w.heap[s]? = some (.cells zeroCells 89 (0, 0))) : (srcW w s rd e).heap[s]? = some (.cells (srcCells w.heap.size rd e) 89 (0, 0)) := by
  unfold srcW
  refine Eq.trans (block_setCell _ (block_setCell _ (block_setCell _ (block_setCell _ (block_setCell _ (block_setCell _ (block_setCell _ (block_setCell _ (block_setCell _ (block_setCell _ (block_setCell _ hs))))))))))) ?_
  exact congrArg (fun c => some (Obj.cells c 89 (0, 0))) (by kernel_rfl)
theorem srcW_other {w : World} {s rd e k : Nat} (h : k ≠ s) : (srcW w s rd e).heap[k]? = w.heap[k]? := by
  unfold srcW
  repeat rw [Below.heap_setCell _ _ _ _ h]
theorem initW_block {w : World} {s rd e : Nat} (hs : w.heap[s]? = some (.cells zeroCells 89 (0, 0))) : (initW w s rd e).heap[s]? = some (.cells (srcCells w.heap.size rd e) 89 (0, 0)) := by
  have hlt : s < w.heap.size := (Array.getElem?_eq_some_iff.1 hs).1
  unfold initW
  rw [Below.heap_alloc _ _ _ (by rw [srcW_size]; exact hlt)]
  exact srcW_block hs
def iniW (w : World) (s rd e : Nat) (m : Int) : World := ((initW w s rd e).setCell ⟨s, 11, none⟩ (.int .u64 m)).setCell ⟨s, 12, none⟩ (.bool false)
theorem init_walk (w : World) (s rd e : Nat) (m : Int) (hs : w.heap[s]? = some (.cells zeroCells 89 (0, 0))) :
    Calls Tryd.prog 49 #[.pointer (some ⟨s, 0, none⟩), .iface 91 (.pointer (some ⟨rd, 0, none⟩)), .func (.func 51) #[] #[.pointer (some ⟨e, 0, none⟩)], .int .u64 m] w fun en w' => en = .returned (.tuple #[]) ∧ w' = iniW w s rd e m := by
  have hb := initW_block (rd := rd) (e := e) hs
  have c11 := cell_of_block hb (o := 11) (v := .int .u64 0) rfl
  have c12 := cell_of_block hb (o := 12) (v := .bool false) rfl
  have fr : ∀ o, (initW w s rd e).frozen? ⟨s, o, none⟩ = false := fun o => free_of_block hb
  have H := srcInit_walk w s rd e hs
  clear hb hs
  go_enter Tryd.func49, Tryd.ntmps49
  go_wp2_with (go_at_call 68; refine H.mono ?_; rintro en w' ⟨rfl, rfl⟩)
  go_end0
  exact ⟨rfl, rfl⟩
theorem newReader_walk (w : World) (v : Value) (hv : v.oneCell' = true) (hsl : ∃ a n c, v = .slice a n c) :
    Calls Tryd.prog 50 #[v] w fun en w' => en = .returned (.pointer (some ⟨w.heap.size, 0, none⟩)) ∧ w' = w.alloc (.cells #[v, .int .i64 0, .int .i64 (-1)] 107) := by
  obtain ⟨a, n, c, rfl⟩ := hsl
  go_enter Tryd.func50, Tryd.ntmps50
  go_wp2
  go_ret
  exact ⟨rfl, rfl⟩
end Sc
end Go.Proofs.YtogkcphobhhbdaaDoor

/- The scanner at its beginning, as the plain state has it. -/
namespace Go.Proofs.YtogkcphobhhbdaaDoor
open Go Go.RowKit Go.Lib
namespace Sc
set_option maxRecDepth 100000
theorem alloc_at (w : World) (o : Obj) : (w.alloc o).heap[w.heap.size]? = some o := by
  show (w.heap.push o)[w.heap.size]? = _
  simp
def buf0 : ByteArray := ⟨(Array.replicate 4096 (0 : UInt8)).setIfInBounds 0 128⟩
theorem buf0_size : buf0.size = 4096 := by simp [buf0, ByteArray.size]
theorem zbuf_get (i : Nat) (h : i < 4096) : zbuf[i]? = some (.int .u8 0) := by
  simp [zbuf, madeCells, h, Nat.mod_one]
theorem buf0_cells : byteCells buf0 = zbuf.setIfInBounds 0 (.int .u8 128) := by
  apply Array.ext_getElem?
  intro i
  have hz : zbuf.size = 4096 := size_madeCells _ _
  simp only [byteCells, buf0, Array.getElem?_map, Array.getElem?_setIfInBounds, Array.size_replicate, hz]
  by_cases hi : 0 = i
  · subst hi; simp
  · rw [if_neg hi, if_neg hi, Array.getElem?_replicate]
    by_cases h : i < 4096
    · rw [if_pos h, zbuf_get i h]; rfl
    · rw [if_neg h, Array.getElem?_eq_none (by omega)]; rfl
/-- The state ahead of the first reading. -/
def stI (m : Int) : St := ⟨true, 0, 0, none, 0, 0, 32, m, false, 0, 0, false, 0, ByteArray.empty, false, 0, 0, 0, []⟩
def rawI (m : Int) : Raw := ⟨buf0, false, -1, 0, 0, 0, 0, 32, 0, m, false, 0, 0, false, 0, ByteArray.empty, false, 0, 0, 0, 0, []⟩
def adOf (w0 w : World) (sb scap : Nat) (ea : Addr) (src : ByteArray) : Ad := ⟨w0, w.heap.size + 1, w.heap.size + 3, w.heap.size + 2, w.heap.size, sb, w.heap.size + 4, scap, ea, src⟩
/-- The world once scanner.init is through. -/
def w1I (w : World) : World := w.alloc (.cells #[.slice none 0 0] 52)
def w2I (w : World) : World := (w1I w).alloc (.cells zeroCells 89)
def w3I (w : World) (sb n scap : Nat) : World := (w2I w).alloc (.cells #[.slice (some ⟨sb, 0, none⟩) n scap, .int .i64 0, .int .i64 (-1)] 107)
def w4I (w : World) (sb n scap : Nat) (m : Int) : World := iniW (w3I w sb n scap) (w.heap.size + 1) (w.heap.size + 2) w.heap.size m
structure Start (w0 w : World) (sb scap : Nat) (ea : Addr) (src : ByteArray) : Prop where
  glob : Glob w0 ea
  n : src.size ≤ 2048
  below : Below w0.heap.size w0 w
  lo : w0.heap.size ≤ sb
  hi : sb < w.heap.size
  src : ∀ j, j < src.size → w.cell? ⟨sb, j, none⟩ = some (.int .u8 (src.get! j).toNat)
theorem start_ok {w0 w : World} {sb scap : Nat} {ea : Addr} {src : ByteArray} (h : Start w0 w sb scap ea src) : (adOf w0 w sb scap ea src).Ok := by
  have := h.below.size; have := h.lo; have := h.hi
  refine ⟨h.glob, h.n, h.lo, ?_, ?_, ?_, ?_, h.hi, ?_, ?_, ?_, ?_⟩ <;> simp only [adOf] <;> omega
theorem w3I_size (w : World) (sb n scap : Nat) : (w3I w sb n scap).heap.size = w.heap.size + 3 := by simp [w3I, w2I, w1I]
theorem w4I_size (w : World) (sb n scap : Nat) (m : Int) : (w4I w sb n scap m).heap.size = w.heap.size + 4 := by simp [w4I, iniW, initW_size, w3I_size]
theorem w3I_s (w : World) (sb n scap : Nat) : (w3I w sb n scap).heap[w.heap.size + 1]? = some (.cells zeroCells 89 (0, 0)) := by
  unfold w3I
  rw [Below.heap_alloc _ _ _ (by simp [w2I, w1I])]
  have e : (w1I w).heap.size = w.heap.size + 1 := by simp [w1I]
  unfold w2I
  rw [← e]
  exact alloc_at _ _
theorem w3I_old (w : World) (sb n scap k : Nat) (h : k < w.heap.size) : (w3I w sb n scap).heap[k]? = w.heap[k]? := by
  unfold w3I w2I w1I
  rw [Below.heap_alloc _ _ _ (by simp; omega), Below.heap_alloc _ _ _ (by simp; omega), Below.heap_alloc _ _ _ h]
theorem w3I_e (w : World) (sb n scap : Nat) : (w3I w sb n scap).heap[w.heap.size]? = some (.cells #[.slice none 0 0] 52 (0, 0)) := by
  unfold w3I w2I w1I
  rw [Below.heap_alloc _ _ _ (by simp; omega), Below.heap_alloc _ _ _ (by simp)]
  exact alloc_at _ _
theorem w3I_rd (w : World) (sb n scap : Nat) : (w3I w sb n scap).heap[w.heap.size + 2]? = some (.cells #[.slice (some ⟨sb, 0, none⟩) n scap, .int .i64 0, .int .i64 (-1)] 107 (0, 0)) := by
  have e : (w2I w).heap.size = w.heap.size + 2 := by simp [w2I, w1I]
  unfold w3I
  rw [← e]
  exact alloc_at _ _
theorem w4I_other {w : World} {sb n scap k : Nat} {m : Int} (h : k ≠ w.heap.size + 1) (hk : k < w.heap.size + 3) : (w4I w sb n scap m).heap[k]? = (w3I w sb n scap).heap[k]? := by
  unfold w4I iniW initW
  rw [Below.heap_setCell _ _ _ _ h, Below.heap_setCell _ _ _ _ h, Below.heap_alloc _ _ _ (by rw [srcW_size, w3I_size]; exact hk), srcW_other h]
theorem w4I_buf {w : World} {sb n scap : Nat} {m : Int} : (w4I w sb n scap m).heap[w.heap.size + 3]? = some (.cells (byteCells buf0) 5 (0, 0)) := by
  have e : (srcW (w3I w sb n scap) (w.heap.size + 1) (w.heap.size + 2) w.heap.size).heap.size = w.heap.size + 3 := by rw [srcW_size, w3I_size]
  unfold w4I iniW initW
  rw [Below.heap_setCell _ _ _ _ (show w.heap.size + 3 ≠ w.heap.size + 1 by omega), Below.heap_setCell _ _ _ _ (show w.heap.size + 3 ≠ w.heap.size + 1 by omega), ← e, buf0_cells]
  exact alloc_at _ _
theorem w4I_s {w : World} {sb n scap : Nat} {m : Int} {w0 : World} {ea : Addr} {src : ByteArray} : (w4I w sb n scap m).heap[w.heap.size + 1]? = some (.cells (rawCells (adOf w0 w sb scap ea src) (rawI m)) 89 (0, 0)) := by
  have h := initW_block (rd := w.heap.size + 2) (e := w.heap.size) (w3I_s w sb n scap)
  rw [w3I_size] at h
  unfold w4I iniW
  refine Eq.trans (block_setCell _ (block_setCell _ h)) ?_
  exact congrArg (fun c => some (Obj.cells c 89 (0, 0))) (by kernel_rfl)
theorem srcW_below {B s rd e : Nat} {a w : World} (h : Below B a w) (hs : B ≤ s) : Below B a (srcW w s rd e) := by
  unfold srcW
  have step : ∀ {w : World} (o : Nat) (v : Value), Below B a w → Below B a (w.setCell ⟨s, o, none⟩ v) := fun o v h => Below.setCell h hs v
  exact step _ _ (step _ _ (step _ _ (step _ _ (step _ _ (step _ _ (step _ _ (step _ _ (step _ _ (step _ _ (step _ _ h))))))))))
theorem w4I_below {w0 w : World} {sb scap : Nat} {ea : Addr} {src : ByteArray} (h : Start w0 w sb scap ea src) (m : Int) : Below w0.heap.size w0 (w4I w sb src.size scap m) := by
  have hb := h.below.size
  have hs : w0.heap.size ≤ w.heap.size + 1 := by omega
  have b3 : Below w0.heap.size w0 (w3I w sb src.size scap) := Below.alloc (Below.alloc (Below.alloc h.below hb _) (by simp; omega) _) (by simp; omega) _
  have b4 := Below.alloc (srcW_below (rd := w.heap.size + 2) (e := w.heap.size) b3 hs) (by rw [srcW_size, w3I_size]; omega) (.cells (zbuf.setIfInBounds 0 (.int .u8 128)) 5)
  unfold w4I iniW initW
  exact Below.setCell (Below.setCell b4 (show w0.heap.size ≤ (⟨w.heap.size + 1, 11, none⟩ : Addr).block from hs) _) (show w0.heap.size ≤ (⟨w.heap.size + 1, 12, none⟩ : Addr).block from hs) _
theorem start_inv {w0 w : World} {sb scap : Nat} {ea : Addr} {src : ByteArray} (h : Start w0 w sb scap ea src) (m : Int) : SInv (adOf w0 w sb scap ea src) (stI m) (w4I w sb src.size scap m) := by
  have hb := h.below.size; have hlo := h.lo; have hhi := h.hi
  have old : ∀ k, k < w.heap.size → (w4I w sb src.size scap m).heap[k]? = w.heap[k]? := fun k hk => by
    rw [w4I_other (by omega) (by omega), w3I_old _ _ _ _ _ hk]
  refine ⟨rawI m, ⟨start_ok h, ?_, w4I_s, w4I_buf, buf0_size, ?_, ?_, ⟨.slice none 0 0, ?_, ?_⟩, ?_⟩, ⟨⟨0, 0, 0, ?_, rfl, Nat.le_refl _, rfl⟩, fun _ => ⟨rfl, rfl⟩, (fun e => by cases e), Nat.zero_le _, rfl⟩⟩
  · exact w4I_below h m
  · show (w4I w sb src.size scap m).heap[w.heap.size + 2]? = _
    rw [w4I_other (by omega) (by omega), w3I_rd]; rfl
  · intro j hj
    show (w4I w sb src.size scap m).cell? ⟨sb, j, none⟩ = _
    rw [World.cell?_of_block (w := w) (a := ⟨sb, j, none⟩) (old sb hhi)]
    exact h.src j hj
  · show (w4I w sb src.size scap m).heap[w.heap.size]? = _
    rw [w4I_other (by omega) (by omega), w3I_e]
  · exact ⟨rfl, .inl ⟨rfl, rfl⟩⟩
  · show w.heap.size + 4 ≤ _
    rw [w4I_size]; exact Nat.le_refl _
  · exact ⟨rfl, rfl, Nat.le_refl _, rfl, buf0_size, fun j hj => absurd hj (Nat.not_lt_zero _), by kernel_rfl, .inr rfl, (fun e => by cases e), h.n⟩
end Sc
end Go.Proofs.YtogkcphobhhbdaaDoor

/- Plain: the tokens of a text: how they end, how they lie, that no mode changes them. -/
namespace Go.Proofs.YtogkcphobhhbdaaDoor
open Go Go.RowKit Go.Lib
namespace Sc
open Ev
set_option maxRecDepth 100000
/-- The states behind each token, up to the text's end. -/
def toksN (src : ByteArray) : Nat → St → List St
  | 0, _ => []
  | n + 1, st => if (nextF src st).1.tok = 1 then [(nextF src st).1] else (nextF src st).1 :: toksN src n (nextF src st).1
def meas (src : ByteArray) (st : St) : Nat := 2 * left src st + (if st.nlsemi = true then 1 else 0)
def toks (src : ByteArray) (m : Int) : List St := toksN src (meas src (stI m) + 1) (stI m)
/-- What holds ahead of each token. -/
structure Iv (src : ByteArray) (st : St) : Prop where
  sz : src.size ≤ 2048
  pos : Pos0 src st
  kp : Kp st
  op : Rop st
theorem Iv.le {src : ByteArray} {st : St} (h : Iv src st) : st.p ≤ src.size := by
  rcases h.pos with h1 | h1
  · exact h1.n
  · exact h1.2
theorem iv_next {src : ByteArray} {st : St} (h : Iv src st) : Iv src (nextF src st).1 ∧ Rk (nextF src st).1 ∧ TokAt st (nextF src st).1 ∧ ((nextF src st).1.tok ≠ 1 → meas src (nextF src st).1 < meas src st) := by
  obtain ⟨h1, h2, h3, h4⟩ := nextF_sat h.pos h.sz
  have hk := nextF_rk h.pos h.sz h.op
  refine ⟨⟨h.sz, .inl h1, (h2.kp h.sz h.kp).1, hk.2⟩, hk, h4, fun hne => ?_⟩
  have hl := h2.left
  rcases h3 with h3 | h3 | ⟨h5, h6⟩
  · exact absurd h3 hne
  · unfold meas; split <;> split <;> omega
  · unfold meas; rw [if_pos h5, if_neg (by rw [h6]; decide)]; omega
theorem iv_start (src : ByteArray) (m : Int) (hs : src.size ≤ 2048) : Iv src (stI m) :=
  ⟨hs, .inr ⟨rfl, Nat.zero_le _⟩, ⟨by show (0 : Int) ≤ 0; decide, by show (0 : Int) ≤ 0; decide, by show (0 : Int) + (0 : Nat) ≤ (0 : Nat); decide, by show (0 : Int) + 2 * (0 : Nat) ≤ 2 * (0 : Nat); decide⟩, ⟨by show (0 : Int) ≤ 0; decide, by show (0 : Int) ≤ 23; decide⟩⟩
/-- No earlier than a place. -/
def Ord (l c : Int) (s : St) : Prop := l < s.line ∨ (l = s.line ∧ c ≤ s.col)
/-- A token that has a name, and a place of no size. -/
structure Tk (s : St) : Prop where
  rk : Rk s
  l0 : 1 ≤ s.line
  l1 : s.line ≤ 5000
  c0 : 1 ≤ s.col
  c1 : s.col ≤ 5000
inductive Good : Int → Int → List St → Prop
  | last {l c : Int} {s : St} : s.tok = 1 → Ord l c s → Tk s → Good l c [s]
  | more {l c : Int} {s : St} {t : List St} : s.tok ≠ 1 → Ord l c s → Tk s → Good s.line s.col t → Good l c (s :: t)
theorem toksN_good {src : ByteArray} : ∀ (n : Nat) (st : St) (l c : Int), Iv src st → meas src st < n → (l < 1 + st.line0 ∨ (l = 1 + st.line0 ∧ c ≤ 1 + st.col0)) → Good l c (toksN src n st)
  | 0, _, _, _, _, h, _ => absurd h (Nat.not_lt_zero _)
  | n + 1, st, l, c, hI, hm, ho => by
    obtain ⟨hI', hk, ht, hlt⟩ := iv_next hI
    obtain ⟨s0, k0, k9, x1, x2, e1, e2⟩ := ht hI.kp
    have b1 := k0.l0; have b2 := k0.c0; have b7 := k0.c; have b8 := k0.l
    have e1 : (nextF src st).1.line = 1 + s0.line0 := e1.trans (u64_small (by omega) (by omega))
    have e2 : (nextF src st).1.col = 1 + s0.col0 := e2.trans (u64_small (by omega) (by omega))
    have tk : Tk (nextF src st).1 := ⟨hk, by omega, by omega, by omega, by omega⟩
    have od : Ord l c (nextF src st).1 := by unfold Ord; unfold Lx at x1; omega
    rw [toksN]
    by_cases h1 : (nextF src st).1.tok = 1
    · rw [if_pos h1]; exact .last h1 od tk
    · rw [if_neg h1]
      exact .more h1 od tk (toksN_good n _ _ _ hI' (by have := hlt h1; omega) (by rw [e1, e2]; unfold Lx at x2; omega))
theorem toks_good {src : ByteArray} (m : Int) (hs : src.size ≤ 2048) : Good 1 1 (toks src m) :=
  toksN_good _ _ _ _ (iv_start src m hs) (Nat.lt_succ_self _) (.inr ⟨rfl, by show (1 : Int) ≤ 1 + 0; decide⟩)
/-- What holds at each place of the list. -/
theorem Good.ne {l c : Int} {L : List St} (h : Good l c L) : L ≠ [] := by cases h <;> simp
theorem Good.at {l c : Int} {L : List St} (h : Good l c L) : ∀ (i : Nat) (s : St), L[i]? = some s → Tk s ∧ (s.tok = 1 ↔ i + 1 = L.length) ∧ (∀ r, 0 < i → L[i - 1]? = some r → Ord r.line r.col s) := by
  induction h with
  | last h1 h2 h3 =>
    intro i s hi
    cases i with
    | zero => simp only [List.getElem?_cons_zero, Option.some.injEq] at hi; subst hi; exact ⟨h3, by simp [h1], fun r hr => absurd hr (Nat.lt_irrefl _)⟩
    | succ i => simp at hi
  | @more l c s0 t h1 h2 h3 h4 ih =>
    intro i s hi
    cases i with
    | zero =>
      simp only [List.getElem?_cons_zero, Option.some.injEq] at hi; subst hi
      have := h4.ne
      have hl : t.length ≠ 0 := fun e => this (List.eq_nil_of_length_eq_zero e)
      exact ⟨h3, by simp only [List.length_cons]; constructor <;> intro hh <;> omega, fun r hr => absurd hr (Nat.lt_irrefl _)⟩
    | succ i =>
      simp only [List.getElem?_cons_succ] at hi
      obtain ⟨g1, g2, g3⟩ := ih i s hi
      refine ⟨g1, by simp only [List.length_cons]; rw [g2]; omega, fun r _ hr => ?_⟩
      cases i with
      | zero =>
        simp only [Nat.zero_add, Nat.sub_self, List.getElem?_cons_zero, Option.some.injEq] at hr
        subst hr
        cases h4 with
        | last _ ho _ => simp only [List.getElem?_cons_zero, Option.some.injEq] at hi; subst hi; exact ho
        | more _ ho _ _ => simp only [List.getElem?_cons_zero, Option.some.injEq] at hi; subst hi; exact ho
      | succ i =>
        simp only [Nat.add_sub_cancel, List.getElem?_cons_succ] at hr
        exact g3 r (Nat.succ_pos _) (by simpa using hr)
inductive AllSim : List St → List St → Prop
  | nil : AllSim [] []
  | cons {a b : St} {l k : List St} : SimB a b → AllSim l k → AllSim (a :: l) (b :: k)
theorem AllSim.length {L K : List St} (h : AllSim L K) : K.length = L.length := by
  induction h with
  | nil => rfl
  | cons _ _ ih => simp [ih]
theorem AllSim.at {L K : List St} (h : AllSim L K) : ∀ (i : Nat) (a b : St), L[i]? = some a → K[i]? = some b → SimB a b := by
  induction h with
  | nil => intro i a b h1; simp at h1
  | cons hs _ ih =>
    intro i a b h1 h2
    cases i with
    | zero => simp only [List.getElem?_cons_zero, Option.some.injEq] at h1 h2; subst h1; subst h2; exact hs
    | succ i => simp only [List.getElem?_cons_succ] at h1 h2; exact ih i a b h1 h2
/-! What is told is little. -/
theorem toksN_len {src : ByteArray} : ∀ (n : Nat) (st : St), (toksN src n st).length ≤ n
  | 0, _ => Nat.le_refl _
  | n + 1, st => by
    rw [toksN]
    split
    · simp
    · have := toksN_len n (nextF src st).1 (src := src)
      simp; omega
theorem toks_len (src : ByteArray) (m : Int) (hs : src.size ≤ 2048) : (toks src m).length ≤ 9000 := by
  have := toksN_len (src := src) (meas src (stI m) + 1) (stI m)
  have h2 : meas src (stI m) ≤ 8196 := by
    have : left src (stI m) = 2 * (src.size - 0) + 1 := rfl
    unfold meas
    rw [if_neg (show ¬ (stI m).nlsemi = true from fun h => by cases h)]
    omega
  unfold toks
  omega
end Sc
end Go.Proofs.YtogkcphobhhbdaaDoor

/- Plain: how much is told at the most. -/
namespace Go.Proofs.YtogkcphobhhbdaaDoor
open Go Go.RowKit Go.Lib
namespace Sc
open Ev
set_option maxRecDepth 100000
theorem readAt_cnt (src : ByteArray) (line : Int) : ∀ (f : Nat) (fresh : Bool) (p : Nat) (col : Int) (ns : List Note), (readAt src line f fresh p col ns).notes.length + p ≤ ns.length + (readAt src line f fresh p col ns).p
  | 0, _, p, col, ns => by simp [readAt]
  | f + 1, fresh, p, col, ns => by
    have d1 := dec_pos src p
    simp only [readAt]
    by_cases hp : p < src.size
    · simp only [if_pos hp]
      split
      · split
        · have := readAt_cnt src line f false (p + 1) (u64 (col + 1)) (ns ++ [⟨u64 (1 + line), u64 (1 + col), msgNUL⟩])
          simp only [List.length_append, List.length_singleton] at this; omega
        · simp only; omega
      · split
        · have := readAt_cnt src line f false (p + 1) (u64 (col + 1)) (ns ++ [⟨u64 (1 + line), u64 (1 + col), msgUTF⟩])
          simp only [List.length_append, List.length_singleton] at this; omega
        · split
          · have := readAt_cnt src line f false (p + (Utf8.decode src p).2) (u64 (col + (Utf8.decode src p).2)) (if line > 0 ∨ col > 0 then ns ++ [⟨u64 (1 + line), u64 (1 + col), msgBOM⟩] else ns)
            have h2 : (if line > 0 ∨ col > 0 then ns ++ [⟨u64 (1 + line), u64 (1 + col), msgBOM⟩] else ns : List Note).length ≤ ns.length + 1 := by split <;> simp
            omega
          · simp only; omega
    · simp only [if_neg hp]; omega
/-- Not more is told than this, for what was read. -/
def Cn (src : ByteArray) (J : Nat) (a b : St) : Prop := b.notes.length + 5000 * left src b ≤ a.notes.length + 5000 * left src a + J
theorem Cn.refl (src : ByteArray) (a : St) : Cn src 0 a a := Nat.le_refl _
theorem Cn.trans {src : ByteArray} {J K : Nat} {a b c : St} (h : Cn src J a b) (h' : Cn src K b c) : Cn src (J + K) a c := by unfold Cn at *; omega
theorem Cn.weak {src : ByteArray} {J K : Nat} {a b : St} (h : Cn src J a b) (hJ : J ≤ K) : Cn src K a b := by unfold Cn at *; omega
theorem cn_same {src : ByteArray} {a b : St} (e1 : b.notes = a.notes) (e2 : left src b = left src a) : Cn src 0 a b := by unfold Cn; rw [e1, e2]; exact Nat.le_refl _
theorem cn_errAt (src : ByteArray) (l c : Int) (m : ByteArray) (st : St) : Cn src 1 st (errAt l c m st) := by
  unfold Cn
  have : (errAt l c m st).notes.length = st.notes.length + 1 := by simp [errAt]
  have e : left src (errAt l c m st) = left src st := rfl
  rw [this, e]; omega
theorem cn_error (src : ByteArray) (m : ByteArray) (st : St) : Cn src 1 st (error m st) := cn_errAt src _ _ m st
theorem cn_errorAt (src : ByteArray) (o : Int) (m : ByteArray) (st : St) : Cn src 1 st (errorAtF o m st) := cn_errAt src _ _ m st
theorem cn_next1 (src : ByteArray) (st : St) (h : ¬ st.ch = -1) : (nextch src st).notes.length + 5000 * left src (nextch src st) + 5000 ≤ st.notes.length + 5000 * left src st := by
  have hl := nextch_left src st h
  have e1 : (nextch src st).p = (readAt src (nlLine st) (src.size + 1) st.fresh st.p (nlCol st) st.notes).p := rfl
  have e2 : (nextch src st).notes = (readAt src (nlLine st) (src.size + 1) st.fresh st.p (nlCol st) st.notes).notes := rfl
  have hc := readAt_cnt src (nlLine st) (src.size + 1) st.fresh st.p (nlCol st) st.notes
  rw [← e1, ← e2] at hc
  by_cases hp : st.p < src.size
  · have hr := readAt_on src (nlLine st) src.size st.fresh st.p (nlCol st) st.notes hp
    rw [← e1] at hr
    have : left src (nextch src st) + 2 * ((nextch src st).p - st.p) ≤ left src st := by
      unfold left; rw [if_neg h]; split <;> omega
    omega
  · have hr := readAt_end src (nlLine st) src.size st.fresh st.p (nlCol st) st.notes hp
    have e3 : (nextch src st).notes = st.notes := by rw [e2, hr]
    rw [e3]; omega
theorem cn_next (src : ByteArray) (st : St) : Cn src 0 st (nextch src st) := by
  by_cases h : st.ch = -1
  · have hl := nextch_le src st
    have e1 : (nextch src st).p = (readAt src (nlLine st) (src.size + 1) st.fresh st.p (nlCol st) st.notes).p := rfl
    have e2 : (nextch src st).notes = (readAt src (nlLine st) (src.size + 1) st.fresh st.p (nlCol st) st.notes).notes := rfl
    have hc := readAt_cnt src (nlLine st) (src.size + 1) st.fresh st.p (nlCol st) st.notes
    rw [← e1, ← e2] at hc
    unfold Cn
    by_cases hp : st.p < src.size
    · have hr := readAt_on src (nlLine st) src.size st.fresh st.p (nlCol st) st.notes hp
      rw [← e1] at hr
      have : left src (nextch src st) + ((nextch src st).p - st.p) ≤ left src st := by
        unfold left; rw [if_pos h]; split <;> omega
      omega
    · have hr := readAt_end src (nlLine st) src.size st.fresh st.p (nlCol st) st.notes hp
      have e3 : (nextch src st).notes = st.notes := by rw [e2, hr]
      rw [e3]; omega
  · have := cn_next1 src st h
    unfold Cn; omega
/-- A little debt is paid by one character. -/
theorem cn_pay {src : ByteArray} {J : Nat} {a b : St} (h : Cn src J a b) (hb : ¬ b.ch = -1) (hJ : J ≤ 5000) : Cn src 0 a (nextch src b) := by
  have := cn_next1 src b hb
  unfold Cn at *; omega
theorem cn_pay' {src : ByteArray} {J : Nat} {a b : St} (ha : ¬ a.ch = -1) (h : Cn src J (nextch src a) b) (hJ : J ≤ 5000) : Cn src 0 a b := by
  have := cn_next1 src a ha
  unfold Cn at *; omega
theorem Cn.next {src : ByteArray} {J : Nat} {a b : St} (h : Cn src J a b) : Cn src J a (nextch src b) := h.trans (cn_next src b)
theorem cn_skip (src : ByteArray) (c : Int → Bool) (st : St) : Cn src 0 st (skip src c st) := skip_ind src c (P := fun s => Cn src 0 st s) (fun s h _ => h.next) st (Cn.refl _ _)
theorem cn_stars (src : ByteArray) (st : St) : Cn src 0 st (starsF src st).2 := by
  unfold starsF
  refine runF_sat (body := starsB src) (μ := left src) (fun a => Cn src 0 st a) (P := fun (b : Bool × St) => Cn src 0 st b.2) (fun a ha => ⟨fun h => ⟨fun h2 => ha.next.next, fun _ => ⟨ha.next, nextch_left src a (fun e => by rw [e] at h; cases h)⟩⟩, fun _ => ha⟩) st (Cn.refl _ _)
theorem cn_sc (src : ByteArray) (st : St) : Cn src 0 st (scF src st).2 := by
  unfold scF
  refine runF_sat (body := scB src) (μ := left src) (fun a => Cn src 0 st a) (P := fun (b : Bool × St) => Cn src 0 st b.2) (fun a ha => ?_) st (Cn.refl _ _)
  have on := scB_on src a
  exact ⟨fun h => ⟨fun h2 => ha.trans (cn_stars src a), fun h2 => ⟨(ha.trans (cn_stars src a)).next, (on.1 h).2 h2⟩⟩, fun _ => ha⟩
theorem cn_skipComment (src : ByteArray) (st : St) : Cn src 1 st (skipCommentF src st).2 := by
  unfold skipCommentF
  split
  · exact (cn_sc src st).weak (by decide)
  · exact (cn_sc src st).trans (cn_errorAt _ _ _ _)
theorem cn_pfx (src : ByteArray) : ∀ (rs : List Int) (st : St), Cn src 0 st (pfxF src rs st).2
  | [], st => Cn.refl _ _
  | r :: rs, st => by
    simp only [pfxF]
    split
    · exact (cn_next src st).trans (cn_pfx src rs _)
    · exact Cn.refl _ _
theorem cn_pfxGo {src s : ByteArray} {φ ψ : St → St} {J : Nat} (hφ : ∀ st, Cn src J st (φ st)) (hψ : ∀ st, Cn src J st (ψ st)) (st : St) : Cn src J st (pfxGo src s φ ψ st) := by
  have e : 0 + J = J := Nat.zero_add J
  unfold pfxGo
  split
  · rw [← e]; exact (cn_pfx _ _ _).trans (hψ _)
  · rw [← e]; exact (cn_pfx _ _ _).trans (hφ _)
theorem cn_stop (src : ByteArray) (st : St) : Cn src 0 st (stop st) := cn_same rfl rfl
theorem cn_lcTxt (src : ByteArray) (st : St) : Cn src 1 st (lcTxt src st) := (cn_skip src notLine st).trans (cn_errAt _ _ _ _ _)
theorem cn_lcSkip (src : ByteArray) (st : St) : Cn src 1 st (lcSkip src st) := ((cn_stop src st).trans (cn_skip src notLine _)).weak (by decide)
theorem cn_lineComment (src : ByteArray) (st : St) : Cn src 1 st (lineCommentF src st) := by
  unfold lineCommentF
  split
  · exact cn_lcTxt _ _
  · split
    · exact cn_lcSkip _ _
    · exact cn_pfxGo (cn_lcSkip src) (cn_lcTxt src) st
theorem cn_fcTxt (src : ByteArray) (st : St) : Cn src 2 st (fcTxt src st) := by
  unfold fcTxt
  split
  · exact (cn_skipComment src st).trans (cn_errAt _ _ _ _ _)
  · exact (cn_skipComment src st).weak (by decide)
theorem cn_fcSkip (src : ByteArray) (st : St) : Cn src 2 st (fcSkip src st) := ((cn_stop src st).trans (cn_skipComment src _)).weak (by decide)
theorem cn_fullComment (src : ByteArray) (st : St) : Cn src 2 st (fullCommentF src st) := by
  unfold fullCommentF
  split
  · exact cn_fcTxt _ _
  · split
    · exact cn_fcSkip _ _
    · exact cn_pfxGo (cn_fcSkip src) (cn_fcTxt src) st
/-! Literals -/
theorem cn_escLF (src : ByteArray) (b : Int) (p : St × Int × Int) (hI : escI b p) : Cn src 1 p.1 (escLF src b p).1 := by
  unfold escLF
  refine runF_sat (body := escB src b) (μ := escM) (fun a => escI b a ∧ Cn src 0 p.1 a.1) (P := fun (q : St × Int × Option Bool) => Cn src 1 p.1 q.1) (fun a ha => ?_) p ⟨hI, Cn.refl _ _⟩
  have on := escB_on src b a ha.1
  refine ⟨fun h1 => ⟨fun _ => ha.2.weak (by decide), fun h2 => ⟨fun h3 => ⟨(((on.1 h1).2 h2).1 h3).1, ha.2.trans (cn_error _ _ _)⟩, fun h3 => ?_⟩⟩, fun _ => ha.2.weak (by decide)⟩
  have := ((on.1 h1).2 h2).2 h3
  exact ⟨⟨this.1, ha.2.next⟩, this.2⟩
theorem cn_escTail (src : ByteArray) (b m : Int) (st : St) (r : St × Int × Option Bool) (h : Cn src 1 st r.1) : Cn src 2 st (escTail b m r).2 := by
  unfold escTail
  split
  · exact h.weak (by decide)
  · split
    · exact h.trans (cn_error _ _ _)
    · split
      · exact h.trans (cn_error _ _ _)
      · exact h.weak (by decide)
theorem cn_escape (src : ByteArray) (q : Int) (st : St) : Cn src 2 st (escapeF src q st).2 := by
  unfold escapeF
  split
  · exact (cn_next _ _).weak (by decide)
  · split
    · exact cn_escTail src _ _ _ _ (cn_escLF src 8 (st, 0, 3) ⟨.inl rfl, by show (3 : Int) ≤ 8; decide⟩)
    · split
      · exact cn_escTail src _ _ _ _ ((cn_next src st).trans (cn_escLF src 16 (nextch src st, 0, 2) ⟨.inr rfl, by show (2 : Int) ≤ 8; decide⟩))
      · split
        · exact cn_escTail src _ _ _ _ ((cn_next src st).trans (cn_escLF src 16 (nextch src st, 0, 4) ⟨.inr rfl, by show (4 : Int) ≤ 8; decide⟩))
        · split
          · exact cn_escTail src _ _ _ _ ((cn_next src st).trans (cn_escLF src 16 (nextch src st, 0, 8) ⟨.inr rfl, by show (8 : Int) ≤ 8; decide⟩))
          · split
            · exact (Cn.refl _ _).weak (by decide)
            · exact (cn_error _ _ _).weak (by decide)
theorem cn_rawLF (src : ByteArray) (p : St × Bool) : Cn src 1 p.1 (rawLF src p).1 := by
  unfold rawLF
  refine runF_sat (body := rawB src) (μ := okM src) (fun a => Cn src 0 p.1 a.1) (P := fun (q : St × Bool) => Cn src 1 p.1 q.1) (fun a ha => ?_) p (Cn.refl _ _)
  refine ⟨fun _ => ha.next.weak (by decide), fun h1 => ⟨fun _ => ha.trans (cn_errorAt _ _ _ _), fun h2 => ⟨ha.next, nextch_left src a.1 (ne_neg h2)⟩⟩⟩
theorem cn_strLF (src : ByteArray) (p : St × Bool) : Cn src 1 p.1 (strLF src p).1 := by
  unfold strLF
  refine runF_sat (body := strB src) (μ := okM src) (fun a => Cn src 0 p.1 a.1) (P := fun (q : St × Bool) => Cn src 1 p.1 q.1) (fun a ha => ?_) p (Cn.refl _ _)
  have esc : (a.1.ch == 92) = true → Cn src 0 p.1 (escapeF src 34 (nextch src a.1)).2 ∧ left src (escapeF src 34 (nextch src a.1)).2 < left src a.1 := fun h => by
    have hne : ¬ a.1.ch = -1 := eq_ne (by decide) h
    exact ⟨ha.trans (cn_pay' hne (cn_escape src 34 (nextch src a.1)) (by decide)), Nat.lt_of_le_of_lt (escapeF_on src 34 (nextch src a.1)).left (nextch_left src a.1 hne)⟩
  exact ⟨fun _ => ha.next.weak (by decide), fun _ => ⟨fun h => ⟨fun _ => esc h, fun _ => esc h⟩, fun _ => ⟨fun _ => ha.trans (cn_error _ _ _), fun _ => ⟨fun _ => ha.trans (cn_errorAt _ _ _ _), fun h2 => ⟨ha.next, nextch_left src a.1 (ne_neg h2)⟩⟩⟩⟩⟩
theorem cn_runeLF (src : ByteArray) (p : St × Bool × Int) : Cn src 1 p.1 (runeLF src p).1 := by
  unfold runeLF
  refine runF_sat (body := runeB src) (μ := runeM src) (fun a => Cn src 0 p.1 a.1) (P := fun (q : St × Bool) => Cn src 1 p.1 q.1) (fun a ha => ?_) p (Cn.refl _ _)
  have esc : (a.1.ch == 92) = true → Cn src 0 p.1 (escapeF src 39 (nextch src a.1)).2 ∧ left src (escapeF src 39 (nextch src a.1)).2 < left src a.1 := fun h => by
    have hne : ¬ a.1.ch = -1 := eq_ne (by decide) h
    exact ⟨ha.trans (cn_pay' hne (cn_escape src 39 (nextch src a.1)) (by decide)), Nat.lt_of_le_of_lt (escapeF_on src 39 (nextch src a.1)).left (nextch_left src a.1 hne)⟩
  have n0 : Cn src 1 p.1 (nextch src a.1) := ha.next.weak (by decide)
  have w : Cn src 1 p.1 a.1 := ha.weak (by decide)
  exact ⟨fun _ => ⟨fun _ => ⟨fun _ => (ha.trans (cn_error _ _ _)).next, fun _ => ⟨fun _ => (ha.trans (cn_errorAt _ _ _ _)).next, fun _ => n0⟩⟩, fun _ => n0⟩,
    fun _ => ⟨fun h => ⟨fun _ => esc h, fun _ => esc h⟩, fun _ => ⟨fun _ => ⟨fun _ => ha.trans (cn_error _ _ _), fun _ => w⟩, fun _ => ⟨fun _ => ⟨fun _ => ha.trans (cn_errorAt _ _ _ _), fun _ => w⟩, fun h2 => ⟨ha.next, nextch_left src a.1 (ne_neg h2)⟩⟩⟩⟩⟩
theorem cn_setLit (src : ByteArray) (k : Int) (ok : Bool) (st : St) : Cn src 0 st (setLitF src k ok st) := cn_same rfl rfl
theorem cn_str (src : ByteArray) (st : St) : Cn src 1 st (stdStringF src st) := ((cn_next src st).trans (cn_strLF src (nextch src st, true))).trans (cn_setLit _ _ _ _)
theorem cn_raw (src : ByteArray) (st : St) : Cn src 1 st (rawStringF src st) := ((cn_next src st).trans (cn_rawLF src (nextch src st, true))).trans (cn_setLit _ _ _ _)
theorem cn_rune (src : ByteArray) (st : St) : Cn src 1 st (runeF src st) := ((cn_next src st).trans (cn_runeLF src (nextch src st, true, 0))).trans (cn_setLit _ _ _ _)
/-! Names -/
theorem cn_atId (src : ByteArray) (f : Bool) (st : St) : Cn src 1 st (atIdF f st).2 := by
  unfold atIdF
  split
  · exact (Cn.refl _ _).weak (by decide)
  · split
    · show Cn src 1 st (if f = true then _ else _)
      split
      · exact cn_error _ _ _
      · exact (Cn.refl _ _).weak (by decide)
    · split
      · exact cn_error _ _ _
      · exact (Cn.refl _ _).weak (by decide)
def idCn (src : ByteArray) (st : St) : Step St St → Prop
  | .go a' => Cn src 0 st a'
  | .out q => Cn src 1 st q
theorem idB_cn (src : ByteArray) (a : St) : (idB src a).all (idCn src a) :=
  ⟨fun h => cn_pay (cn_atId src false a) (by rw [atIdF_ch]; exact atIdF_ne h) (by decide), fun _ => cn_atId src false a⟩
theorem cn_idBF (src : ByteArray) (st : St) (h : chOk st) : Cn src 1 st (idBF src st) := by
  unfold idBF
  refine runF_sat (body := idB src) (μ := left src) (fun a => chOk a ∧ Cn src 0 st a) (P := fun q => Cn src 1 st q) (fun a ha => ?_) st ⟨h, Cn.refl _ _⟩
  refine sat_mono (sat_all (idB_on src a ha.1) (idB_cn src a)) (fun s hs => ?_)
  cases s with
  | go a' => exact ⟨⟨hs.1.1, ha.2.trans hs.2⟩, hs.1.2.2⟩
  | out q => exact ha.2.trans hs.2
theorem cn_identEnd (src : ByteArray) (s : St) : Cn src 0 s (identEnd src s) := by
  unfold identEnd
  split <;> exact cn_same rfl rfl
theorem cn_ident {src : ByteArray} {st : St} (h : chOk st) : Cn src 1 st (identF src st) := by
  unfold identF
  split
  · exact ((cn_skip src cId st).trans (cn_idBF src _ (skip_chOk h))).trans (cn_identEnd _ _)
  · exact ((cn_skip src cId st).trans (cn_identEnd _ _)).weak (by decide)
/-! Numbers -/
def dCn {κ : Type} (src : ByteArray) (st : St) : Step (St × κ) (St × κ) → Prop
  | .go a' => Cn src 0 st a'.1
  | .out q => Cn src 0 st q.1
theorem digA_cn (src : ByteArray) (mx : Int) (a : St × Int × Int) : (digA src mx a).all (dCn src a.1) := by
  have n := cn_next src a.1
  have k : (digA1 src mx a).all (dCn src a.1) := ⟨fun _ => n, fun _ => ⟨fun _ => ⟨fun _ => n, fun _ => n⟩, fun _ => n⟩⟩
  exact ⟨fun _ => k, fun _ => ⟨fun _ => k, fun _ => Cn.refl _ _⟩⟩
theorem digN_cn (src : ByteArray) (a : St × Int) : (digN src 58 a).all (dCn src a.1) := by
  have n := cn_next src a.1
  have k : (digN1 src 58 a).all (dCn src a.1) := ⟨fun _ => n, fun _ => ⟨fun _ => trivial, fun _ => n⟩⟩
  exact ⟨fun _ => k, fun _ => ⟨fun _ => k, fun _ => Cn.refl _ _⟩⟩
theorem digB_cn (src : ByteArray) (a : St × Int) : (digB src a).all (dCn src a.1) := by
  have n := cn_next src a.1
  exact ⟨fun _ => ⟨fun _ => n, fun _ => n⟩, fun _ => ⟨fun _ => ⟨fun _ => n, fun _ => n⟩, fun _ => Cn.refl _ _⟩⟩
theorem cn_digits (src : ByteArray) (b : Int) (st : St) (inv : Int) : Cn src 0 st (digitsF src b st inv).1 := by
  unfold digitsF
  split
  · refine runF_sat (body := digA src (IntKind.i32.wrap (IntKind.i64.wrap (48 + b)))) (μ := digAM src) (fun a => Cn src 0 st a.1) (P := fun q => Cn src 0 st q.1) (fun a ha => ?_) (st, 0, inv) (Cn.refl _ _)
    refine sat_mono (sat_all (digA_on src _ a) (digA_cn src _ a)) (fun s hs => ?_)
    cases s with
    | go a' => exact ⟨ha.trans hs.2, hs.1.2⟩
    | out q => exact ha.trans hs.2
  · refine runF_sat (body := digB src) (μ := digNM src) (fun a => Cn src 0 st a.1) (P := fun q => Cn src 0 st q.1) (fun a ha => ?_) (st, 0) (Cn.refl _ _)
    refine sat_mono (sat_all (digB_on src a) (digB_cn src a)) (fun s hs => ?_)
    cases s with
    | go a' => exact ⟨ha.trans hs.2, hs.1.2⟩
    | out q => exact ha.trans hs.2
theorem cn_digN (src : ByteArray) (st : St) : Cn src 0 st (digNF src (st, 0)).1 := by
  unfold digNF
  refine runF_sat (body := digN src 58) (μ := digNM src) (fun a => Cn src 0 st a.1) (P := fun q => Cn src 0 st q.1) (fun a ha => ?_) (st, 0) (Cn.refl _ _)
  refine sat_mono (sat_all (digN_on src a) (digN_cn src a)) (fun s hs => ?_)
  cases s with
  | go a' => exact ⟨ha.trans hs.2, hs.1.2⟩
  | out q => exact ha.trans hs.2
theorem all_mono {α : Type} {P Q : α → Prop} {t : Tree α} (h : t.all P) (hpq : ∀ a, P a → Q a) : t.all Q := by
  induction t with
  | leaf a => exact hpq a h
  | test b t e iht ihe => exact ⟨fun hb => iht (h.1 hb), fun hb => ihe (h.2 hb)⟩
  | req p k ih => exact ih h
  | any t e iht ihe => exact ⟨iht h.1, ihe h.2⟩
  | fail => trivial
theorem all_bind {α β : Type} {P : α → Prop} {Q : β → Prop} {t : Tree α} {f : α → Tree β} (h : t.all P) (hf : ∀ a, P a → (f a).all Q) : (t.bind f).all Q := by
  induction t with
  | leaf a => exact hf a h
  | test b t e iht ihe => exact ⟨fun hb => iht (h.1 hb), fun hb => ihe (h.2 hb)⟩
  | req p k ih => exact ih (show k.all P from h)
  | any t e iht ihe => exact ⟨iht h.1, ihe h.2⟩
  | fail => trivial
theorem n1_cn {src : ByteArray} {base pre d0 : Int} {st : St} {r : St × Int × Int} (h : Cn src 0 st r.1) : (n1T src base pre d0 r).all (fun a => Cn src 1 st a.st) := by
  have e : ∀ m, Cn src 1 st (nextch src (error m r.1)) := fun m => (h.trans (cn_error src m _)).next
  exact ⟨fun _ => ⟨fun _ => e _, fun _ => ⟨fun _ => e _, fun _ => h.next.weak (by decide)⟩⟩, fun _ => h.weak (by decide)⟩
theorem p1F_cn (src : ByteArray) (st : St) : (p1FT src st).all (fun a => Cn src 1 st a.st) := by
  have n1 := cn_next src st
  have n2 := n1.next
  exact ⟨fun _ => ⟨fun _ => n1_cn (n2.trans (cn_digits _ _ _ _)), fun _ => ⟨fun _ => n1_cn (n2.trans (cn_digits _ _ _ _)), fun _ => ⟨fun _ => n1_cn (n2.trans (cn_digits _ _ _ _)), fun _ => n1_cn (n1.trans (cn_digits _ _ _ _))⟩⟩⟩, fun _ => n1_cn (cn_digits _ _ _ _)⟩
theorem p2_cn (src : ByteArray) (s : NumS) : (p2T src s).all (fun a => Cn src 0 s.st a.st) := ⟨fun _ => cn_digits _ _ _ _, fun _ => Cn.refl _ _⟩
theorem p3_cn (src : ByteArray) (s : NumS) : (p3T s).all (fun a => Cn src 1 s.st a.st) := by
  have w : Cn src 1 s.st s.st := (Cn.refl _ _).weak (by decide)
  exact ⟨fun _ => ⟨fun _ => cn_error _ _ _, fun _ => w⟩, fun _ => w⟩
theorem expDig_cn {src : ByteArray} {J : Nat} {st : St} {s : NumS} {x : St} (h : Cn src J st x) : (expDigT src s x).all (fun a => Cn src (J + 1) st a.st) := by
  have d : Cn src J st (digNF src (x, 0)).1 := h.trans (cn_digN src x)
  have w : Cn src (J + 1) st (digNF src (x, 0)).1 := d.weak (Nat.le_succ _)
  exact ⟨fun _ => ⟨fun _ => d.trans (cn_error _ _ _), fun _ => w⟩, fun _ => w⟩
theorem expSign_cn {src : ByteArray} {J : Nat} {st : St} {s : NumS} (h : Cn src J st s.st) : (expSignT src s).all (fun a => Cn src (J + 1) st a.st) :=
  ⟨fun _ => expDig_cn h.next.next, fun _ => ⟨fun _ => expDig_cn h.next.next, fun _ => expDig_cn h.next⟩⟩
theorem expErr_cn (src : ByteArray) (s : NumS) (x : Int) : Cn src 1 s.st (expErr (s, x)).st := by
  unfold expErr
  simp only
  split
  · exact cn_error _ _ _
  · split
    · exact cn_error _ _ _
    · exact (Cn.refl _ _).weak (by decide)
theorem p4_cn (src : ByteArray) (B : Prop) (s : NumS) : (p4T src B s).all (fun a => Cn src 2 s.st a.st) := by
  have a1 : (expSignT src (expErr (s, lowerF s.st.ch))).all (fun a => Cn src 2 s.st a.st) := expSign_cn (expErr_cn src s _)
  have a2 : (expSignT src s).all (fun a => Cn src 2 s.st a.st) := all_mono (expSign_cn (Cn.refl _ _)) (fun a h => h.weak (by decide))
  have w : Cn src 2 s.st s.st := (Cn.refl _ _).weak (by decide)
  exact ⟨fun _ => ⟨fun _ => a1, fun _ => a2⟩, fun _ => ⟨fun _ => ⟨fun _ => a1, fun _ => a2⟩, fun _ => ⟨fun _ => ⟨fun _ => ⟨fun _ => (cn_error _ _ _).weak (by decide), fun _ => w⟩, fun _ => w⟩, fun _ => w⟩⟩⟩
theorem p45_cn (src : ByteArray) (s : NumS) : (p45T src s).all (fun a => Cn src 0 s.st a.st) := ⟨fun _ => cn_next _ _, fun _ => Cn.refl _ _⟩
theorem p5_cn (src : ByteArray) (s : NumS) : (p5T src s).all (fun a => Cn src 1 s.st a.st) := by
  have l := cn_setLit src s.kind s.ok s.st
  have w : Cn src 1 s.st (setLitF src s.kind s.ok s.st) := l.weak (by decide)
  exact ⟨fun _ => ⟨fun _ => ⟨fun _ => l.trans (cn_errorAt _ _ _ _), fun _ => w⟩, fun _ => w⟩, fun _ => w⟩
theorem p6_cn (src : ByteArray) (s : NumS) : (p6T s).all (fun a => Cn src 1 s.st a.st) := by
  have w : Cn src 1 s.st s.st := (Cn.refl _ _).weak (by decide)
  exact ⟨fun _ => ⟨fun _ => ⟨fun _ => cn_errorAt _ _ _ _, fun _ => w⟩, fun _ => w⟩, fun _ => w⟩
theorem numTail_cn {src : ByteArray} {J : Nat} {st : St} {s : NumS} (h : Cn src J st s.st) : (numTail src True Tree.leaf s).all (fun a => Cn src (J + 5) st a.st) :=
  all_bind (p2_cn src s) fun a ha => all_bind (p3_cn src a) fun b hb => all_bind (p4_cn src True b) fun c hc => all_bind (p45_cn src c) fun d hd => all_bind (p5_cn src d) fun e he => all_bind (p6_cn src e) fun f hf => (((((h.trans ha).trans hb).trans hc).trans hd).trans he).trans hf
theorem cn_number {src : ByteArray} {seen : Bool} {st : St} (h : Off src st) (hc : st.ch ≠ 10) : Cn src 6 st (numberF src seen st) := by
  have key : (numTree src True Tree.leaf seen st).all (fun a => Cn src 6 st a.st) := by
    unfold numTree
    split
    · exact all_mono (numTail_cn (J := 0) (Cn.refl _ _)) (fun a h => h.weak (by decide))
    · exact all_bind (p1F_cn src st) fun a ha => numTail_cn ha
  have := (num_get h hc).1 (sat_mono (sat_all (num_sat h hc) key) (fun a h => h.2))
  exact this.trans (cn_same rfl rfl)
/-! A pass -/
def SwC (src : ByteArray) (st : St) : Fin → Prop
  | .done s _ => Cn src 20 st s
  | .redo s => Cn src 20 st s
  | .asg s => Cn src 20 st s
theorem cn_rewind {src : ByteArray} {st : St} (hO : Off src st) (hb : st.b = some (st.p - st.chw)) (hP : Pos src st) (hc : st.ch = 46) : Cn src 0 st (nextch src (rewind src (nextch src (nextch src st)))) := by
  obtain ⟨r1, r2, r3, _⟩ := rewind_at hb hP hc (nextch src (nextch src st)) rfl
  have hw := hP.w; have hn := hP.n; have hsz := hO.sz
  have h1 : st.chw = 1 := by
    have := hP.asc (by rw [hc]; decide)
    have := hP.pos (by rw [hc]; decide)
    omega
  have e : (nextch src (nextch src st)).b.getD 0 = st.p - 1 := by show st.b.getD 0 = _; rw [hb, h1]; rfl
  have cnt : ∀ s : St, s.p ≤ src.size → (nextch src s).notes.length ≤ s.notes.length + 2048 := fun s hs => by
    have h1 := readAt_cnt src (nlLine s) (src.size + 1) s.fresh s.p (nlCol s) s.notes
    have h2 := (nextch_pos (src := src) hs).1.n
    have e1 : (nextch src s).p = (readAt src (nlLine s) (src.size + 1) s.fresh s.p (nlCol s) s.notes).p := rfl
    have e2 : (nextch src s).notes = (readAt src (nlLine s) (src.size + 1) s.fresh s.p (nlCol s) s.notes).notes := rfl
    rw [← e1, ← e2] at h1
    omega
  have c1 := cnt st hn
  have c2 := cnt (nextch src st) (nextch_pos (src := src) hn).1.n
  have hrn : (rewind src (nextch src (nextch src st))).notes.length ≤ (nextch src (nextch src st)).notes.length + 1 := by
    have h1 := readAt_cnt src (nlLine { nextch src (nextch src st) with p := (nextch src (nextch src st)).b.getD 0, col0 := u64 ((nextch src (nextch src st)).col0 - u64 (((nextch src (nextch src st)).p : Int) - ((nextch src (nextch src st)).b.getD 0 : Nat))) }) (src.size + 1) (nextch src (nextch src st)).fresh ((nextch src (nextch src st)).b.getD 0) (nlCol { nextch src (nextch src st) with p := (nextch src (nextch src st)).b.getD 0, col0 := u64 ((nextch src (nextch src st)).col0 - u64 (((nextch src (nextch src st)).p : Int) - ((nextch src (nextch src st)).b.getD 0 : Nat))) }) (nextch src (nextch src st)).notes
    have e2 : (rewind src (nextch src (nextch src st))).notes.length + (nextch src (nextch src st)).b.getD 0 ≤ (nextch src (nextch src st)).notes.length + (rewind src (nextch src (nextch src st))).p := h1
    rw [e, r1] at e2
    omega
  have hl : left src (rewind src (nextch src (nextch src st))) = left src st := by unfold left; rw [r1, r3, hc]
  have := cn_next1 src (rewind src (nextch src (nextch src st))) (by rw [r3]; decide)
  unfold Cn
  omega
theorem sw_satC {src : ByteArray} {nl : Bool} {st : St} (hO : Off src st) (hP : Pos src st) (hbb : st.b = some (st.p - st.chw)) : (swT src nl st).sat (SwC src st) := by
  have hb := hO.b
  have eqv : ∀ {k : Int}, (st.ch == k) = true → st.ch = k := fun h => by simpa using h
  have z : Cn src 0 st st := Cn.refl _ _
  have g1 : Cn src 0 st (nextch src st) := cn_next _ _
  have g2 := g1.next
  have g3 := g2.next
  have up : ∀ {a b : St}, Cn src 0 st a → b.notes = a.notes → left src b = left src a → Cn src 0 st b := fun h e1 e2 => h.trans (cn_same e1 e2)
  have f1 : ∀ {t : Int} {s : St}, Cn src 0 st s → (sw1 t s).sat (SwC src st) := fun h => (up h rfl rfl).weak (by decide)
  have f4 : ∀ {o p : Int} {s : St}, Cn src 0 st s → (sw4 o p s).sat (SwC src st) := fun h => (up h rfl rfl).weak (by decide)
  have fA : ∀ {o p : Int} {s : St}, Cn src 0 st s → (swA o p s).sat (SwC src st) := fun h => (up h rfl rfl).weak (by decide)
  have fl : ∀ {w : ByteArray} {s : St}, Cn src 0 st s → SwC src st (.done (lit w s) []) := fun h => (up h rfl rfl).weak (by decide)
  have num : ∀ k : Int, k ≠ 10 → (st.ch == k) = true → (swNum src false st).sat (SwC src st) := fun k hk h => by
    have hc : st.ch ≠ 10 := fun e => hk ((eqv h).symm.trans e)
    exact ⟨⟨hO, hc⟩, (cn_number hO hc).weak (by decide)⟩
  have sm : Cn src 0 st (semi (nextch src st)) := up g1 rfl rfl
  have on : ∀ o p, Cn src 0 st (nextch src (opr o p (nextch src st))) := fun o p => Cn.next (up g1 rfl rfl)
  have osn : ∀ o p, Cn src 0 st (semi (nextch src (opr o p (nextch src st)))) := fun o p => up (on o p) rfl rfl
  refine tr_sat (tr_sat (fl z) (f1 z)) (tr_sat (fl g1) ?_)
  refine test_sat (num 48 (by decide)) (test_sat (num 49 (by decide)) (test_sat (num 50 (by decide)) (test_sat (num 51 (by decide)) (test_sat (num 52 (by decide)) ?_))))
  refine test_sat (num 53 (by decide)) (test_sat (num 54 (by decide)) (test_sat (num 55 (by decide)) (test_sat (num 56 (by decide)) (test_sat (num 57 (by decide)) ?_))))
  refine tr_sat ⟨hb, (cn_str src st).weak (by decide)⟩ (tr_sat ⟨hb, (cn_raw src st).weak (by decide)⟩ (tr_sat ⟨hb, (cn_rune src st).weak (by decide)⟩ ?_))
  refine tr_sat (f1 g1) (tr_sat (f1 g1) (tr_sat (f1 g1) (tr_sat (f1 g1) (tr_sat (fl g1) (tr_sat (f1 sm) (tr_sat (f1 sm) (tr_sat (f1 sm) ?_)))))))
  refine tr_sat (tr_sat (f1 g2) (f1 g1)) ?_
  refine test_sat (fun h => test_sat (fun h3 => ?_) (test_sat (fun h2 => tr_sat (f1 g3) ⟨hb, f1 (cn_rewind hO hbb hP (eqv h))⟩) (f1 g1))) ?_
  · have o1 := (hO.next (by rw [eqv h]; decide)).1
    have c1 : (nextch src st).ch ≠ 10 := fun e => by rw [e] at h3; exact absurd h3 (by decide)
    exact ⟨⟨o1, c1⟩, (g1.trans (cn_number o1 c1)).weak (by decide)⟩
  have r1 : Cn src 20 st (lineCommentF src (nextch src (nextch src st))) := (g2.trans (cn_lineComment _ _)).weak (by decide)
  have r2 : Cn src 20 st (fullCommentF src (nextch src (nextch src st))) := (g2.trans (cn_fullComment _ _)).weak (by decide)
  have r2l : Cn src 20 st (lit wNewline (fullCommentF src (nextch src (nextch src st)))) := ((g2.trans (cn_fullComment _ _)).trans (cn_same rfl rfl)).weak (by decide)
  refine tr_sat (tr_sat (fA g1) (f1 (osn 13 4))) (tr_sat (tr_sat (fA g1) (f1 (osn 14 4))) (tr_sat (tr_sat (f1 (on 17 5)) (f1 (up g1 rfl rfl))) ?_))
  refine tr_sat (tr_sat ⟨hb, r1⟩ (tr_sat ⟨hb, tr_sat (tr_sat r2l r2) r2⟩ (fA g1))) ?_
  have e21 : Cn src 20 st { nextch src (opr 20 5 (nextch src st)) with op := 21 } := ((on 20 5).trans (cn_same rfl rfl)).weak (by decide)
  refine tr_sat (fA g1) (tr_sat (tr_sat (f4 g2) (tr_sat e21 (fA g1))) (tr_sat (tr_sat (f4 g2) (fA g1)) (tr_sat (fA g1) ?_)))
  refine tr_sat (tr_sat (f4 g2) (tr_sat (fA g2) (tr_sat (f1 g2) (f4 g1)))) (tr_sat (tr_sat (f4 g2) (tr_sat (fA g2) (f4 g1))) (tr_sat (tr_sat (f4 g2) (f1 g1)) (tr_sat (tr_sat (f4 g2) (f4 g1)) (tr_sat (f4 g1) ?_))))
  exact ((cn_error src msgChar st).trans (cn_next _ _)).weak (by decide)
theorem pass_satC {src : ByteArray} {nl : Bool} {st : St} (h : Pos0 src st) (hs : src.size ≤ 2048) : (passT src nl st).sat (fun f => match f with
    | .done s _ => Cn src 40 st s
    | .redo s => Cn src 40 st s
    | .asg s => Cn src 40 st s) := by
  obtain ⟨p1, a1, n1⟩ := blanks_pos (nl := nl) h
  have c1 : Cn src 0 st (skip src (cBlank nl) (stop st)) := (cn_stop src st).trans (cn_skip src _ _)
  have key : ∀ bl : Bool, (hdT src (fun s => Fin.done s []) (swT src nl) (nxSt bl (skip src (cBlank nl) (stop st)))).sat (fun f => match f with
    | .done s _ => Cn src 40 st s
    | .redo s => Cn src 40 st s
    | .asg s => Cn src 40 st s) := fun bl => by
    have c2 : Cn src 0 st (nxSt bl (skip src (cBlank nl) (stop st))) := c1.trans (cn_same rfl rfl)
    have hO := nxSt_off (bl := bl) p1 hs
    have hP := nxSt_pos bl p1
    have hbb : (nxSt bl (skip src (cBlank nl) (stop st))).b = some ((nxSt bl (skip src (cBlank nl) (stop st))).p - (nxSt bl (skip src (cBlank nl) (stop st))).chw) := rfl
    generalize nxSt bl (skip src (cBlank nl) (stop st)) = s at *
    have oI := cn_atId src true s
    have sI := atId_same true s
    have w : ∀ (a : St), Cn src 1 st a → ∀ f, SwC src a f → (match f with
      | .done s _ => Cn src 40 st s
      | .redo s => Cn src 40 st s
      | .asg s => Cn src 40 st s) := fun a ha f hf => by
      cases f with
      | done s bx => exact (ha.trans (show Cn src 20 a s from hf)).weak (by decide)
      | redo s => exact (ha.trans (show Cn src 20 a s from hf)).weak (by decide)
      | asg s => exact (ha.trans (show Cn src 20 a s from hf)).weak (by decide)
    refine ⟨fun _ => ⟨⟨nextch_chOk _ _, hO.b⟩, (c2.next.trans (cn_ident (nextch_chOk _ _))).weak (by decide)⟩, fun _ => ⟨fun _ => ⟨hP.ch, fun _ => ⟨⟨nextch_chOk _ _, by rw [sI.2.2.1]; exact hO.b⟩, ((c2.trans oI).next.trans (cn_ident (nextch_chOk _ _))).weak (by decide)⟩, fun _ => ?_⟩, fun _ => ?_⟩⟩
    · exact sat_mono (sw_satC (atId_off hO) ((atIdF_on src true s).pos hP).1 (by rw [sI.2.2.1, sI.1, sI.2.1]; exact hbb)) (w _ (c2.trans oI))
    · exact sat_mono (sw_satC hO hP hbb) (w _ (c2.weak (by decide)))
  exact key _
/-- What next tells: paid by what was read, but for a little. -/
theorem nextF_cn {src : ByteArray} {st : St} (h : Pos0 src st) (hs : src.size ≤ 2048) : (nextF src st).1.notes.length + 6000 * left src (nextF src st).1 ≤ st.notes.length + 6000 * left src st + 50 := by
  unfold nextF
  refine runF_sat (body := nextB src st.nlsemi) (μ := left src) (fun a => Pos0 src a ∧ left src a ≤ left src st ∧ a.notes.length + 6000 * left src a ≤ st.notes.length + 6000 * left src st) (P := fun r : St × List Value => r.1.notes.length + 6000 * left src r.1 ≤ st.notes.length + 6000 * left src st + 50) (fun a ha => ?_) { st with nlsemi := false } ⟨pos0_nl h false, Nat.le_refl _, Nat.le_refl _⟩
  obtain ⟨h1, h2, h3⟩ := ha
  unfold nextB
  rw [sat_bind]
  refine sat_mono (sat_both (pass_satR h1 hs) (pass_satC h1 hs)) (fun f hf => ?_)
  obtain ⟨hf, hc⟩ := hf
  cases f with
  | done s bx =>
    have hc : Cn src 40 a s := hc
    have hl := hf.2.1.left
    unfold Cn at hc
    show s.notes.length + 6000 * left src s ≤ _
    omega
  | redo s =>
    have hc : Cn src 40 a s := hc
    have hl : left src s < left src a := hf.2.2.1
    unfold Cn at hc
    exact ⟨⟨.inl hf.1, by omega, by omega⟩, hl⟩
  | asg s =>
    have hc : Cn src 40 a s := hc
    have hl := hf.2.1.left
    have c2 : Cn src 0 s (asgF src s) := by
      unfold asgF
      split
      · exact (cn_next src s).trans (cn_same rfl rfl)
      · exact cn_same rfl rfl
    have f2 : left src (asgF src s) ≤ left src s := by
      unfold asgF
      split
      · exact nextch_le src s
      · exact Nat.le_refl _
    unfold Cn at hc c2
    show (asgF src s).notes.length + 6000 * left src (asgF src s) ≤ _
    omega
/-- What is told at the end. -/
def lastN (src : ByteArray) : Nat → St → St
  | 0, st => st
  | n + 1, st => if (nextF src st).1.tok = 1 then (nextF src st).1 else lastN src n (nextF src st).1
def last (src : ByteArray) (m : Int) : St := lastN src (meas src (stI m) + 1) (stI m)
theorem lastN_cn {src : ByteArray} : ∀ (n : Nat) (st : St), Iv src st → meas src st < n → (lastN src n st).notes.length ≤ st.notes.length + 7000 * (meas src st + 1)
  | 0, _, _, h => absurd h (Nat.not_lt_zero _)
  | n + 1, st, hI, hm => by
    obtain ⟨hI', hk, ht, hlt⟩ := iv_next hI
    have hc := nextF_cn hI.pos hI.sz
    have hl := (nextF_sat hI.pos hI.sz).2.1.left
    have ml : 2 * left src st ≤ meas src st := by unfold meas; omega
    have mu : meas src st ≤ 2 * left src st + 1 := by unfold meas; split <;> omega
    have ml' : 2 * left src (nextF src st).1 ≤ meas src (nextF src st).1 := by unfold meas; omega
    have mu' : meas src (nextF src st).1 ≤ 2 * left src (nextF src st).1 + 1 := by unfold meas; split <;> omega
    rw [lastN]
    split
    · omega
    · rename_i hne
      have h2 := hlt hne
      have := lastN_cn n _ hI' (by omega)
      omega
theorem last_cn {src : ByteArray} (m : Int) (hs : src.size ≤ 2048) : (last src m).notes.length ≤ 60000000 := by
  have := lastN_cn (src := src) (meas src (stI m) + 1) (stI m) (iv_start src m hs) (Nat.lt_succ_self _)
  have h2 : meas src (stI m) ≤ 8196 := by
    have : left src (stI m) = 2 * (src.size - 0) + 1 := rfl
    unfold meas
    rw [if_neg (show ¬ (stI m).nlsemi = true from fun h => by cases h)]
    omega
  have h3 : (stI m).notes.length = 0 := rfl
  unfold last
  omega
end Sc
end Go.Proofs.YtogkcphobhhbdaaDoor

/- Plain: the reader stands at a place of the text; characters that follow one another. -/
namespace Go.Proofs.YtogkcphobhhbdaaDoor
open Go Go.RowKit Go.Lib
namespace Sc
open Ev
set_option maxRecDepth 100000
/-- A character stands at p: its number, its bytes; none that is told as a fault. -/
structure ChAt (src : ByteArray) (p : Nat) (r : Int) (w : Nat) : Prop where
  lt : p < src.size
  ch : ((src.get! p).toNat < 128 ∧ (src.get! p).toNat ≠ 0 ∧ r = (src.get! p).toNat ∧ w = 1) ∨
    (¬ (src.get! p).toNat < 128 ∧ ¬ ((Utf8.decode src p).1 = 0xFFFD ∧ (Utf8.decode src p).2 = 1) ∧ (Utf8.decode src p).1 ≠ 0xFEFF ∧ r = (Utf8.decode src p).1 ∧ w = (Utf8.decode src p).2)
theorem ChAt.uniq {src : ByteArray} {p w w' : Nat} {r r' : Int} (h : ChAt src p r w) (h' : ChAt src p r' w') : r = r' ∧ w = w' := by
  rcases h.ch with ⟨a1, a2, a3, a4⟩ | ⟨a1, a2, a3, a4, a5⟩ <;> rcases h'.ch with ⟨b1, b2, b3, b4⟩ | ⟨b1, b2, b3, b4, b5⟩
  · exact ⟨a3.trans b3.symm, a4.trans b4.symm⟩
  · exact absurd a1 b1
  · exact absurd b1 a1
  · exact ⟨a4.trans b4.symm, a5.trans b5.symm⟩
theorem ChAt.w {src : ByteArray} {p w : Nat} {r : Int} (h : ChAt src p r w) : 1 ≤ w ∧ p + w ≤ src.size ∧ 1 ≤ r ∧ r ≤ 1114111 := by
  have hl := h.lt
  rcases h.ch with ⟨a1, a2, a3, a4⟩ | ⟨a1, a2, a3, a4, a5⟩
  · omega
  · have d1 := dec_pos src p
    have d2 := dec_le src p hl
    have d3 := dec_big src p a1
    have d4 := dec_ch src p
    omega
theorem ChAt.byte {src : ByteArray} {p w : Nat} {r : Int} (h : ChAt src p r w) (hr : r < 128) : r = (src.get! p).toNat ∧ w = 1 := by
  rcases h.ch with ⟨a1, a2, a3, a4⟩ | ⟨a1, a2, a3, a4, a5⟩
  · exact ⟨a3, a4⟩
  · have d3 := dec_big src p a1
    omega
theorem chAt_byte {src : ByteArray} {p : Nat} (hp : p < src.size) (h1 : (src.get! p).toNat < 128) (h2 : (src.get! p).toNat ≠ 0) : ChAt src p (src.get! p).toNat 1 := ⟨hp, .inl ⟨h1, h2, rfl, rfl⟩⟩
/-- A character, or the end. -/
def Cln (src : ByteArray) (p : Nat) : Prop := (∃ r w, ChAt src p r w) ∨ p = src.size
/-- The reader stands at p. -/
structure Std (src : ByteArray) (p : Nat) (st : St) : Prop where
  fresh : st.fresh = false
  here : st.p = p + st.chw
  ch : ChAt src p st.ch st.chw ∨ (p = src.size ∧ st.ch = -1 ∧ st.chw = 0)
theorem Std.at {src : ByteArray} {p : Nat} {st : St} (h : Std src p st) (hne : st.ch ≠ -1) : ChAt src p st.ch st.chw := by
  rcases h.ch with h | h
  · exact h
  · exact absurd h.2.1 hne
theorem Std.of {src : ByteArray} {p : Nat} {st : St} (h : Std src p st) {r : Int} {w : Nat} (hc : ChAt src p r w) : st.ch = r ∧ st.chw = w := by
  rcases h.ch with h | h
  · exact h.uniq hc
  · have := hc.lt; omega
theorem Std.end {src : ByteArray} {st : St} (h : Std src src.size st) : st.ch = -1 ∧ st.chw = 0 := by
  rcases h.ch with h | h
  · have := h.lt; omega
  · exact h.2
theorem Std.same {src : ByteArray} {p : Nat} {a b : St} (h : Std src p a) (e1 : b.fresh = a.fresh) (e2 : b.p = a.p) (e3 : b.chw = a.chw) (e4 : b.ch = a.ch) : Std src p b :=
  ⟨e1.trans h.fresh, by rw [e2, e3]; exact h.here, by rw [e3, e4]; exact h.ch⟩
theorem Std.cut {src : ByteArray} {p : Nat} {st : St} (h : Std src p st) : st.p - st.chw = p := by have := h.here; omega
theorem Std.pos {src : ByteArray} {p : Nat} {st : St} (h : Std src p st) : Pos src st := by
  have hh := h.here
  rcases h.ch with hc | ⟨h1, h2, h3⟩
  · obtain ⟨w1, w2, w3, w4⟩ := hc.w
    refine ⟨by omega, by omega, fun _ => w1, by omega, w4, fun hr => Nat.le_of_eq (hc.byte hr).2, fun _ hr => ?_⟩
    obtain ⟨e1, e2⟩ := hc.byte hr
    rw [hh, e2, show p + 1 - 1 = p by omega]; exact e1.symm
  · exact ⟨by omega, by omega, fun hn => absurd h2 hn, by omega, by omega, fun _ => by omega, fun hn => by omega⟩
theorem readAt_cl {src : ByteArray} {line : Int} {f p : Nat} {fresh : Bool} {col : Int} {ns : List Note} (h : Cln src p) : readAt src line (f + 1) fresh p col ns =
    if p < src.size then (if (src.get! p).toNat < 128 then ⟨p + 1, col, (src.get! p).toNat, 1, ns⟩ else ⟨p + (Utf8.decode src p).2, col, (Utf8.decode src p).1, (Utf8.decode src p).2, ns⟩) else ⟨p, col, -1, 0, ns⟩ := by
  rcases h with ⟨r, w, hc⟩ | h
  · have hl := hc.lt
    simp only [readAt, if_pos hl]
    rcases hc.ch with ⟨a1, a2, a3, a4⟩ | ⟨a1, a2, a3, a4, a5⟩
    · rw [if_pos a1, if_pos a1, if_neg (fun h => a2 h.1)]
    · rw [if_neg a1, if_neg a1, if_neg a2, if_neg a3]
  · have hl : ¬ p < src.size := by omega
    simp only [readAt, if_neg hl]
theorem next_of {src : ByteArray} {p : Nat} {st : St} (hp : st.p = p) (hc : Cln src p) : Std src p (nextch src st) ∧ (nextch src st).notes = st.notes := by
  subst hp
  have e : (nextch src st) = st.read (nlLine st) (readAt src (nlLine st) (src.size + 1) st.fresh st.p (nlCol st) st.notes) := rfl
  rw [readAt_cl hc] at e
  by_cases hl : st.p < src.size
  · rw [if_pos hl] at e
    have hc' : ∃ r w, ChAt src st.p r w := by
      rcases hc with h | h
      · exact h
      · omega
    obtain ⟨r, w, hc'⟩ := hc'
    by_cases hb : (src.get! st.p).toNat < 128
    · rw [if_pos hb] at e
      rw [e]
      rcases hc'.ch with ⟨a1, a2, a3, a4⟩ | ⟨a1, a2, a3, a4, a5⟩
      · exact ⟨⟨rfl, rfl, .inl (chAt_byte hl a1 a2)⟩, rfl⟩
      · exact absurd hb a1
    · rw [if_neg hb] at e
      rw [e]
      rcases hc'.ch with ⟨a1, a2, a3, a4⟩ | ⟨a1, a2, a3, a4, a5⟩
      · exact absurd a1 hb
      · exact ⟨⟨rfl, rfl, .inl ⟨hl, .inr ⟨a1, a2, a3, rfl, rfl⟩⟩⟩, rfl⟩
  · rw [if_neg hl] at e
    rw [e]
    have : st.p = src.size := by
      rcases hc with ⟨r, w, h⟩ | h
      · exact absurd h.lt hl
      · exact h
    exact ⟨⟨rfl, rfl, .inr ⟨this, rfl, rfl⟩⟩, rfl⟩
theorem std_next {src : ByteArray} {p : Nat} {st : St} (h : Std src p st) (hc : Cln src (p + st.chw)) : Std src (p + st.chw) (nextch src st) ∧ (nextch src st).notes = st.notes := next_of h.here hc
/-- Characters that follow one another. -/
inductive Cl (src : ByteArray) : Nat → List Int → Nat → Prop
  | nil {p : Nat} : Cl src p [] p
  | cons {p w q : Nat} {r : Int} {cs : List Int} : ChAt src p r w → Cl src (p + w) cs q → Cl src p (r :: cs) q
theorem Cl.le {src : ByteArray} {p q : Nat} {cs : List Int} (h : Cl src p cs q) : p + cs.length ≤ q := by
  induction h with
  | nil => simp
  | cons h1 h2 ih => have := h1.w.1; simp only [List.length_cons]; omega
theorem Cl.cln {src : ByteArray} {p q : Nat} {cs : List Int} (h : Cl src p cs q) (hq : Cln src q) : Cln src p := by
  cases h with
  | nil => exact hq
  | cons h1 h2 => exact .inl ⟨_, _, h1⟩
/-- On, and nothing told. -/
structure Sil (src : ByteArray) (a b : St) : Prop where
  on : On src a b
  notes : b.notes = a.notes
theorem Sil.refl (src : ByteArray) (a : St) : Sil src a a := ⟨On.refl _ _, rfl⟩
theorem Sil.trans {src : ByteArray} {a b c : St} (h : Sil src a b) (h' : Sil src b c) : Sil src a c := ⟨h.on.trans h'.on, h'.notes.trans h.notes⟩
theorem Sil.keep {src : ByteArray} {a b : St} (h : Sil src a b) : b = { a with fresh := b.fresh, p := b.p, chw := b.chw, line0 := b.line0, col0 := b.col0, ch := b.ch } := by
  have := h.on.keep
  rw [h.notes] at this
  exact this
theorem sil_next {src : ByteArray} {p : Nat} {st : St} (h : Std src p st) (hc : Cln src (p + st.chw)) : Sil src st (nextch src st) := ⟨on_next _ _, (std_next h hc).2⟩
/-- Skipping over characters that are such, up to one that is not. -/
theorem skip_cl {src : ByteArray} {c : Int → Bool} (hc : c (-1) = false) {p q : Nat} {cs : List Int} (h : Cl src p cs q) : ∀ {st : St}, (∀ x ∈ cs, c x = true) → Cln src q → (∀ r w, ChAt src q r w → c r = false) → Std src p st →
    Std src q (skip src c st) ∧ Sil src st (skip src c st) := by
  induction h with
  | @nil p =>
    intro st _ hq hs hst
    have : ¬ c st.ch = true := by
      rcases hst.ch with h | ⟨_, h, _⟩
      · rw [hs _ _ h]; simp
      · rw [h, hc]; simp
    rw [skip_eq src c hc, if_neg this]
    exact ⟨hst, Sil.refl _ _⟩
  | @cons p w q r cs h1 h2 ih =>
    intro st ha hq hs hst
    obtain ⟨e1, e2⟩ := hst.of h1
    rw [skip_eq src c hc, if_pos (by rw [e1]; exact ha r (by simp))]
    have hn := std_next hst (by rw [e2]; exact h2.cln hq)
    have hsl := sil_next hst (by rw [e2]; exact h2.cln hq)
    rw [e2] at hn
    obtain ⟨g1, g2⟩ := ih (fun x hx => ha x (by simp [hx])) hq hs hn.1
    exact ⟨g1, hsl.trans g2⟩
end Sc
end Go.Proofs.YtogkcphobhhbdaaDoor

/- Plain: passes of next, one after the other; the tokens of a text, one after the other. -/
namespace Go.Proofs.YtogkcphobhhbdaaDoor
open Go Go.RowKit Go.Lib
namespace Sc
open Ev
set_option maxRecDepth 100000
def passes (src : ByteArray) (nl : Bool) (st : St) : St × List Value := runF (nextB src nl) (left src) (st0, []) st
theorem nextF_passes (src : ByteArray) (st : St) : nextF src st = passes src st.nlsemi { st with nlsemi := false } := rfl
def finG (src : ByteArray) (nl : Bool) : Fin → St × List Value
  | .done s bx => (s, bx)
  | .redo s => passes src nl s
  | .asg s => (asgF src s, [])
def fin0 : Fin := .done st0 []
theorem nextB_falls {src : ByteArray} {nl : Bool} (hs : src.size ≤ 2048) (a : St) (h : Pos0 src a) : (nextB src nl a).sat (Falls (Pos0 src) (left src) a) := by
  unfold nextB
  rw [sat_bind]
  refine sat_mono (pass_satR h hs) (fun f hf => ?_)
  cases f with
  | done s bx => trivial
  | redo s => exact ⟨.inl hf.1, hf.2.2.1⟩
  | asg s => trivial
theorem passes_step {src : ByteArray} {nl : Bool} {st : St} (h : Pos0 src st) (hs : src.size ≤ 2048) : passes src nl st = finG src nl ((passT src nl st).get fin0) := by
  unfold passes
  rw [runF_step (I := Pos0 src) (fun a ha => nextB_falls hs a ha) h (.out (st0, []))]
  unfold nextB
  rw [get_bind (pass_satR h hs) _ _ fin0]
  cases (passT src nl st).get fin0 with
  | done s bx => rfl
  | redo s => rfl
  | asg s => rfl
/-- At a place, or at a blank ahead of it. -/
def Go (src : ByteArray) (p : Nat) (st : St) : Prop := Std src p st ∨ (st.ch = 32 ∧ st.p = p)
theorem Go.same {src : ByteArray} {p : Nat} {a b : St} (h : Go src p a) (e1 : b.fresh = a.fresh) (e2 : b.p = a.p) (e3 : b.chw = a.chw) (e4 : b.ch = a.ch) : Go src p b := by
  rcases h with h | h
  · exact .inl (h.same e1 e2 e3 e4)
  · exact .inr ⟨e4.trans h.1, e2.trans h.2⟩
theorem blanks_cl {src : ByteArray} {nl : Bool} {p q : Nat} {cs : List Int} {st : St} (hg : Go src p st) (hp : p ≤ src.size) (h : Cl src p cs q) (hb : ∀ x ∈ cs, cBlank nl x = true) (hq : Cln src q) (hs : ∀ r w, ChAt src q r w → cBlank nl r = false) :
    Std src q (skip src (cBlank nl) st) ∧ Sil src st (skip src (cBlank nl) st) := by
  have c1 : cBlank nl (-1) = false := by cases nl <;> rfl
  rcases hg with hg | ⟨h32, he⟩
  · exact skip_cl c1 h hb hq hs hg
  · have hn := next_of (src := src) he (h.cln hq)
    rw [skip_eq src (cBlank nl) c1, if_pos (by rw [h32]; cases nl <;> rfl)]
    obtain ⟨g1, g2⟩ := skip_cl c1 h hb hq hs hn.1
    exact ⟨g1, (⟨on_next _ _, hn.2⟩ : Sil src st (nextch src st)).trans g2⟩
/-- A pass has come to the character at q. -/
structure Here (src : ByteArray) (q : Nat) (st n : St) : Prop where
  std : Std src q n
  b : n.b = some q
  notes : n.notes = st.notes
  nl : n.nlsemi = st.nlsemi
  mode : n.mode = st.mode
theorem pass_here {src : ByteArray} {nl : Bool} {p q : Nat} {cs : List Int} {st : St} (hg : Go src p st) (hp : p ≤ src.size) (h : Cl src p cs q) (hb : ∀ x ∈ cs, cBlank nl x = true) (hq : Cln src q) (hs : ∀ r w, ChAt src q r w → cBlank nl r = false) :
    ∃ n, Here src q st n ∧ passT src nl st = hdT src (fun s => Fin.done s []) (swT src nl) n := by
  obtain ⟨g1, g2⟩ := blanks_cl (hg.same (b := stop st) rfl rfl rfl rfl) hp h hb hq hs
  have k := g2.keep
  refine ⟨nxSt (decide (u64 (1 + (skip src (cBlank nl) (stop st)).line0) > u64 (1 + st.line0)) || u64 (1 + st.col0) == 1) (skip src (cBlank nl) (stop st)), ⟨g1.same rfl rfl rfl rfl, ?_, g2.notes, ?_, ?_⟩, rfl⟩
  · show some _ = some q
    rw [g1.cut]
  · show (skip src (cBlank nl) (stop st)).nlsemi = _
    rw [k]; rfl
  · show (skip src (cBlank nl) (stop st)).mode = _
    rw [k]; rfl
theorem hd_sw {src : ByteArray} {D : St → Fin} {K : St → Tree Fin} {n : St} (h1 : isLetterF n.ch = false) (h2 : n.ch < 128) (d : Fin) : (hdT src D K n).get d = (K n).get d := by
  have : decide (n.ch ≥ 128) = false := by simp; omega
  simp only [hdT, Tree.get, h1, this, cond_false, Bool.false_eq_true, if_false]
/-- A pass at a sign, a digit, a quote, or the end: what the switch says. -/
theorem pass_sw {src : ByteArray} {nl : Bool} {p q : Nat} {cs : List Int} {st : St} (hsz : src.size ≤ 2048) (hp0 : Pos0 src st) (hg : Go src p st) (hp : p ≤ src.size) (h : Cl src p cs q) (hb : ∀ x ∈ cs, cBlank nl x = true) {r : Int}
    (hr : (∃ w, ChAt src q r w) ∨ (q = src.size ∧ r = -1)) (hs : cBlank nl r = false) (h1 : isLetterF r = false) (h2 : r < 128) :
    ∃ n, Here src q st n ∧ n.ch = r ∧ passes src nl st = finG src nl ((swT src nl n).get fin0) := by
  have hq : Cln src q := by
    rcases hr with ⟨w, hc⟩ | hc
    · exact .inl ⟨_, _, hc⟩
    · exact .inr hc.1
  obtain ⟨n, hn, e⟩ := pass_here hg hp h hb hq (fun r' w' hc => by
    rcases hr with ⟨w, hc'⟩ | hc'
    · rw [(hc.uniq hc').1]; exact hs
    · have := hc.lt; omega)
  have hch : n.ch = r := by
    rcases hr with ⟨w, hc'⟩ | ⟨hc', hr'⟩
    · exact (hn.std.of hc').1
    · have := hn.std; rw [hc'] at this; rw [this.end.1, hr']
  refine ⟨n, hn, hch, ?_⟩
  rw [passes_step hp0 hsz, e, hd_sw (by rw [hch]; exact h1) (by rw [hch]; exact h2)]
/-- Tokens one after the other, up to the end; the state behind it. -/
inductive Toks (src : ByteArray) : St → List St → St → Prop
  | done {st : St} : (nextF src st).1.tok = 1 → Toks src st [(nextF src st).1] (nextF src st).1
  | more {st e : St} {L : List St} : (nextF src st).1.tok ≠ 1 → Toks src (nextF src st).1 L e → Toks src st ((nextF src st).1 :: L) e
theorem Toks.told {src : ByteArray} {st e : St} {L : List St} (h : Toks src st L e) : ∀ (n : Nat), Iv src st → meas src st < n → toksN src n st = L ∧ lastN src n st = e := by
  induction h with
  | @done st h =>
    intro n hI hn
    obtain ⟨m, rfl⟩ : ∃ m, n = m + 1 := ⟨n - 1, by omega⟩
    rw [toksN, lastN, if_pos h, if_pos h]
    exact ⟨rfl, rfl⟩
  | @more st e L h1 h2 ih =>
    intro n hI hn
    obtain ⟨m, rfl⟩ : ∃ m, n = m + 1 := ⟨n - 1, by omega⟩
    obtain ⟨hI', _, _, hlt⟩ := iv_next hI
    have := hlt h1
    obtain ⟨g1, g2⟩ := ih m hI' (by omega)
    rw [toksN, lastN, if_neg h1, if_neg h1]
    exact ⟨by rw [g1], g2⟩
theorem Toks.all {src : ByteArray} {m : Int} {e : St} {L : List St} (hs : src.size ≤ 2048) (h : Toks src (stI m) L e) : toks src m = L ∧ last src m = e := by
  unfold toks last
  exact h.told _ (iv_start src m hs) (Nat.lt_succ_self _)
/-- At the end of the text. -/
theorem end_pass {src : ByteArray} {nl : Bool} {p q : Nat} {cs : List Int} {st : St} (hsz : src.size ≤ 2048) (hp0 : Pos0 src st) (hg : Go src p st) (hp : p ≤ src.size) (h : Cl src p cs src.size) (hb : ∀ x ∈ cs, cBlank nl x = true) :
    ∃ n, Here src src.size st n ∧ passes src nl st = (if nl = true then lit wEOF n else tk 1 n, []) := by
  obtain ⟨n, hn, hch, e⟩ := pass_sw (r := -1) hsz hp0 hg hp h hb (.inr ⟨rfl, rfl⟩) (by cases nl <;> rfl) (by decide) (by decide)
  refine ⟨n, hn, e.trans ?_⟩
  unfold swT
  cases nl with
  | true => simp [Tree.get, hch, finG]
  | false => simp [Tree.get, hch, finG, sw1]
/-- The end of a text behind blanks: the semicolon that is put in, if it must; the end. -/
theorem end_toks {src : ByteArray} {p : Nat} {cs : List Int} {st : St} (hI : Iv src st) (hg : Go src p st) (hp : p ≤ src.size) (h : Cl src p cs src.size) (hb : ∀ x ∈ cs, cBlank st.nlsemi x = true) :
    ∃ L e, Toks src st L e ∧ e.notes = st.notes ∧ e.tok = 1 ∧ (if st.nlsemi = true then ∃ s, L = [s, e] ∧ s.tok = 18 ∧ s.lit = wEOF else L = [e]) := by
  have p0 : Pos0 src { st with nlsemi := false } := by
    rcases hI.pos with h1 | h1
    · exact .inl (h1.same rfl rfl rfl)
    · exact .inr h1
  obtain ⟨n, hn, e⟩ := end_pass (nl := st.nlsemi) (q := 0) hI.sz p0 (hg.same rfl rfl rfl rfl) hp h hb
  rw [← nextF_passes] at e
  cases hnl : st.nlsemi with
  | false =>
    rw [hnl] at e
    have e1 : (nextF src st).1 = tk 1 n := by rw [e]; rfl
    have h1 : (nextF src st).1.tok = 1 := by rw [e1]; rfl
    refine ⟨_, _, (.done h1), by rw [e1]; exact hn.notes, h1, by simp⟩
  | true =>
    rw [hnl] at e
    have e1 : (nextF src st).1 = lit wEOF n := by rw [e]; rfl
    have i1 := (iv_next hI).1
    have nl1 : (nextF src st).1.nlsemi = false := by rw [e1]; exact hn.nl
    have p1 : Pos0 src { (nextF src st).1 with nlsemi := false } := by
      rcases i1.pos with h1 | h1
      · exact .inl (h1.same rfl rfl rfl)
      · exact .inr h1
    have g1 : Std src src.size (nextF src st).1 := by rw [e1]; exact hn.std.same rfl rfl rfl rfl
    obtain ⟨n2, hn2, e2⟩ := end_pass (nl := (nextF src st).1.nlsemi) (q := 0) hI.sz p1 (.inl (g1.same rfl rfl rfl rfl)) (Nat.le_refl _) .nil (fun x hx => absurd hx (List.not_mem_nil))
    rw [← nextF_passes, nl1] at e2
    have e3 : (nextF src (nextF src st).1).1 = tk 1 n2 := by rw [e2]; rfl
    have h3 : (nextF src (nextF src st).1).1.tok = 1 := by rw [e3]; rfl
    refine ⟨_, _, .more (by rw [e1]; show (18 : Int) ≠ 1; decide) (.done h3), ?_, h3, ?_⟩
    · rw [e3]
      show n2.notes = _
      rw [hn2.notes]
      show (nextF src st).1.notes = _
      rw [e1]
      exact hn.notes
    · rw [if_pos rfl]
      exact ⟨_, rfl, by rw [e1]; rfl, by rw [e1]; rfl⟩
end Sc
end Go.Proofs.YtogkcphobhhbdaaDoor

/- Plain: raw strings; what is told once is never taken back. -/
namespace Go.Proofs.YtogkcphobhhbdaaDoor
open Go Go.RowKit Go.Lib
namespace Sc
open Ev
set_option maxRecDepth 100000
/-! What is told stays told. -/
theorem next_len {src : ByteArray} {st : St} (hI : Iv src st) : st.notes.length ≤ (nextF src st).1.notes.length := by
  obtain ⟨l, hl⟩ := (nextF_sat hI.pos hI.sz).2.1.notes
  rw [hl, List.length_append]; omega
theorem lastN_len {src : ByteArray} : ∀ (n : Nat) (st : St), Iv src st → st.notes.length ≤ (lastN src n st).notes.length
  | 0, _, _ => Nat.le_refl _
  | n + 1, st, hI => by
    have h1 := next_len hI
    rw [lastN]
    split
    · exact h1
    · exact Nat.le_trans h1 (lastN_len n _ (iv_next hI).1)
/-- A fault of the first token is a fault of the text. -/
theorem last_len {src : ByteArray} {m : Int} (hs : src.size ≤ 2048) : (nextF src (stI m)).1.notes.length ≤ (last src m).notes.length := by
  have hI := iv_start src m hs
  unfold last
  rw [lastN]
  split
  · exact Nat.le_refl _
  · exact lastN_len _ _ (iv_next hI).1
/-- A text of one token that a semicolon follows. -/
theorem one_tok {src : ByteArray} {m : Int} {s : St} (hs : src.size ≤ 2048) (h : (nextF src (stI m)).1 = s) (hst : Std src src.size s) (hnl : s.nlsemi = true) (ht : s.tok ≠ 1) (hn : s.notes = []) :
    ∃ s2 s3, toks src m = [s, s2, s3] ∧ s2.tok = 18 ∧ s2.lit = wEOF ∧ s3.tok = 1 ∧ (last src m).notes = [] := by
  have hI := iv_start src m hs
  have h1 := (iv_next hI).1
  rw [h] at h1
  obtain ⟨L, e, hT, g1, g2, g3⟩ := end_toks h1 (.inl hst) (Nat.le_refl _) .nil (fun x hx => absurd hx List.not_mem_nil)
  rw [if_pos hnl] at g3
  obtain ⟨s2, e1, e2, e3⟩ := g3
  have T : Toks src (stI m) ((nextF src (stI m)).1 :: L) e := .more (by rw [h]; exact ht) (by rw [h]; exact hT)
  obtain ⟨k1, k2⟩ := T.all hs
  rw [h, e1] at k1
  exact ⟨s2, e, k1, e2, e3, g2, by rw [k2, g1, hn]⟩
theorem stI_go (src : ByteArray) (m : Int) : Go src 0 (stI m) := .inr ⟨rfl, rfl⟩
theorem stI_pos (src : ByteArray) (m : Int) : Pos0 src (stI m) := .inr ⟨rfl, Nat.zero_le _⟩
end Sc
end Go.Proofs.YtogkcphobhhbdaaDoor

/- ZZScan: what a round reads of the scanner. -/
namespace Go.Proofs.YtogkcphobhhbdaaDoor
open Go Go.RowKit Go.Lib
namespace Sc
open Ev
set_option maxRecDepth 100000
theorem sval {A : Ad} {st : St} {w : World} {o : Nat} {u : Value} (h : SInv A st w) (hg : sget st o = some (.val u)) : w.cell? ⟨A.s, o, none⟩ = some u := by
  obtain ⟨v, hv, hr⟩ := sget_ok h hg
  have : v = u := hr []
  rw [hv, this]
/-- A token's sign. -/
def opStr (o : Int) : ByteArray := if o = 0 then opZero else opWord o.toNat
/-- The cells of a token told. -/
def tokCells (st : St) : List Value := [.int .u64 st.line, .int .u64 st.col, .bool st.blank, .string (tokWord st.tok.toNat), .string st.lit, .bool st.bad, .int .i64 (IntKind.i64.wrap st.kind), .string (opStr st.op), .int .i64 st.prec]
theorem opS_walk (w : World) (h : ∀ i, i < 24 → w.cell? ⟨2, i, none⟩ = some (.int .u8 ([0, 1, 2, 4, 5, 7, 9, 11, 13, 14, 16, 17, 19, 20, 21, 22, 23, 24, 25, 26, 27, 29, 31, 33].getD i 0))) (o : Int) (h1 : 0 ≤ o) (h2 : o ≤ 23) :
    Calls Tryd.prog 54 #[.int .u64 o] w fun e w' => e = .returned (.string (opStr o)) ∧ ∃ m, w' = w.drewN m := by
  unfold opStr
  by_cases h0 : o = 0
  · rw [if_pos h0, h0]; exact opS_0 w
  · rw [if_neg h0]
    have := opS_all w h o.toNat (by omega) (by omega)
    rw [show ((o.toNat : Nat) : Int) = o by omega] at this
    exact this
theorem tokS_walk (w : World) (h : ∀ i, i < 48 → w.cell? ⟨1, i, none⟩ = some (.int .u8 ([0, 3, 7, 14, 16, 19, 23, 24, 26, 28, 29, 30, 31, 32, 33, 34, 35, 36, 37, 38, 39, 42, 47, 51, 55, 60, 68, 75, 80, 84, 95, 98, 102, 104, 108, 110, 116, 125, 128, 135, 140, 146, 152, 158, 164, 168, 171, 171].getD i 0))) (t : Int) (h1 : 1 ≤ t) (h2 : t ≤ 46) :
    Calls Tryd.prog 53 #[.int .u64 t] w fun e w' => e = .returned (.string (tokWord t.toNat)) ∧ ∃ m, w' = w.drewN m := by
  have := tokS_all w h t.toNat (by omega) (by omega)
  rw [show ((t.toNat : Nat) : Int) = t by omega] at this
  exact this
end Sc
end Go.Proofs.YtogkcphobhhbdaaDoor

/- ZZScan: the end of a round walked. -/
namespace Go.Proofs.YtogkcphobhhbdaaDoor
open Go Go.RowKit Go.Lib
namespace Sc
open Ev
set_option maxRecDepth 100000
noncomputable abbrev zzBody : Code := bodyOf Tryd.f30
noncomputable abbrev zzRound : Code := loopOf (blkOf zzBody 0)
noncomputable abbrev zzIn : Code := blkOf zzBody 1
theorem zz_round : zzRound = .block 1 zzIn := by kernel_rfl
/-- The tables of names, as a world has them. -/
structure Tabs (w : World) : Prop where
  tok : ∀ i, i < 48 → w.cell? ⟨1, i, none⟩ = some (.int .u8 ([0, 3, 7, 14, 16, 19, 23, 24, 26, 28, 29, 30, 31, 32, 33, 34, 35, 36, 37, 38, 39, 42, 47, 51, 55, 60, 68, 75, 80, 84, 95, 98, 102, 104, 108, 110, 116, 125, 128, 135, 140, 146, 152, 158, 164, 168, 171, 171].getD i 0))
  op : ∀ i, i < 24 → w.cell? ⟨2, i, none⟩ = some (.int .u8 ([0, 1, 2, 4, 5, 7, 9, 11, 13, 14, 16, 17, 19, 20, 21, 22, 23, 24, 25, 26, 27, 29, 31, 33].getD i 0))
theorem Tabs.drewN {w : World} (h : Tabs w) (n : Nat) : Tabs (w.drewN n) := ⟨h.tok, h.op⟩
theorem Tabs.drew {w : World} (h : Tabs w) : Tabs w.drew := ⟨h.tok, h.op⟩
theorem Tabs.cells {w w' : World} (h : Tabs w) (h1 : w'.heap[1]? = w.heap[1]?) (h2 : w'.heap[2]? = w.heap[2]?) : Tabs w' :=
  ⟨fun i hi => by rw [World.cell?_of_block (w := w) (a := ⟨1, i, none⟩) h1]; exact h.tok i hi, fun i hi => by rw [World.cell?_of_block (w := w) (a := ⟨2, i, none⟩) h2]; exact h.op i hi⟩
theorem Tabs.lt {w : World} (h : Tabs w) : 1 < w.heap.size ∧ 2 < w.heap.size :=
  ⟨World.block_lt_of_cell? w _ (h.tok 0 (by decide)), World.block_lt_of_cell? w _ (h.op 0 (by decide))⟩
theorem Tabs.alloc {w : World} (h : Tabs w) (o : Obj) : Tabs (w.alloc o) :=
  h.cells (Below.heap_alloc _ _ _ h.lt.1) (Below.heap_alloc _ _ _ h.lt.2)
theorem Tabs.grown {w w' : World} {row : Option Nat} (h : Tabs w) (hg : w.grownBy w' row) (h1 : some 1 ≠ row) (h2 : some 2 ≠ row) : Tabs w' :=
  h.cells (hg.block _ h.lt.1 h1) (hg.block _ h.lt.2 h2)
theorem info_tok : (Tryd.prog.info? 57).map (fun i => (i.zero, i.size, i.bytes)) = some (some (.agg #[.int .u64 0, .int .u64 0, .bool false, .string ⟨#[]⟩, .string ⟨#[]⟩, .bool false, .int .i64 0, .string ⟨#[]⟩, .int .i64 0]), 9, 96) := by kernel_rfl
/-- A tape that went on. -/
theorem own_drewN {w : World} {base n : Nat} {e : TypeId} {sz : Nat} {v : Value} {xs : List Value} (h : w.ownsRow base e sz v n xs) (m : Nat) : (w.drewN m).ownsRow base e sz v n xs := h
/-- A token is appended. -/
theorem zz_app {w : World} {k base n : Nat} {v : Value} {xs : List Value} {st : St} (hown : w.ownsRow base 57 9 v n xs) (hbase : base ≤ w.heap.size) (hn : n ≤ 1000000)
    {ops : Array Oper} {o : Oper} {a : Act} {K : Act → World → Prop} {Q : Exit → Act → World → Prop} {E : Prop} (hgd : o.guard = none) (s x : Operand)
    (ho : o.op = .call { callee := .builtin .append, args := #[s, x], argTypes := #[51, 51] }) (hs : a.eval s = v) (hx : a.eval x = .slice (some ⟨w.heap.size, 0, none⟩) 1 1)
    (h : ∀ g cap w', w'.ownsRow base 57 9 (.slice (some ⟨g, 0, none⟩) (n + 1) cap) (n + 1) (xs ++ tokCells st) → ((w.drewN k).alloc (.cells (tokCells st).toArray 57)).grownBy w' v.ownBlock → (v.ownBlock = some g ∨ g = w.heap.size + 1) → g < w'.heap.size → K (a.put o.dst (.slice (some ⟨g, 0, none⟩) (n + 1) cap)) w') :
    if Region.wanted o (yielded ops a.tmps) = true then Oper.wp Tryd.prog o a ((w.drewN k).alloc (.cells (tokCells st).toArray 57)) K Q else E := by
  obtain ⟨i0, hi0, hz0, hz1, hz2⟩ := info_parts info_tok
  have hsz : ((w.drewN k).alloc (.cells (tokCells st).toArray 57)).heap.size = w.heap.size + 1 := by simp
  have hlen : (tokCells st).length = 9 := rfl
  have hml : n + 1 ≤ maxLen := by simp only [maxLen]; omega
  have hone : ∀ u ∈ tokCells st, u.oneCell' = true := by simp [tokCells, Value.oneCell']
  exact step_append_lies _ hgd s x 51 ho base 57 i0 _ 9 96 Tryd.underlying51 hi0 hz0 hz1 hz2 rfl (by omega) v n xs hs (own_alloc (own_drewN hown k) _)
    ⟨w.heap.size, 0, none⟩ 1 1 (tokCells st) hx hlen (World.news_of_block (cs := (tokCells st).toArray) (t := 57) (fr := (0, 0)) (heap_alloc_new (w.drewN k) _)) hone
    (by omega) hml (by omega) (by rw [hsz]; omega) (w.heap.size + 1) hsz h
/-- The slots of a round: the errors, the scanner, the tokens. -/
structure ZA (A : Ad) (v : Value) (a : Act) : Prop where
  defers : a.defers = []
  size : a.tmps.size = 46
  e : a.tmps[6]? = some (.pointer (some ⟨A.e, 0, none⟩))
  s : a.tmps[7]? = some (.pointer (some ⟨A.s, 0, none⟩))
  v : a.tmps[8]? = some v
theorem tmps46 (t : Array Value) (h : t.size = 46) : t = ((List.range 46).map fun i => t.getD i undef).toArray := by
  apply Array.ext_getElem?
  intro i
  simp only [List.getElem?_toArray, List.getElem?_map]
  by_cases hi : i < 46
  · rw [List.getElem?_range hi]
    simp [h, hi]
  · rw [Array.getElem?_eq_none (by omega), List.getElem?_eq_none (by simp; omega)]; rfl
theorem ZA.lit {A : Ad} {v : Value} {a : Act} (h : ZA A v a) : ∃ x : Nat → Value, a = { tmps := #[x 0, x 1, x 2, x 3, x 4, x 5, .pointer (some ⟨A.e, 0, none⟩), .pointer (some ⟨A.s, 0, none⟩), v, x 9, x 10, x 11, x 12, x 13, x 14, x 15, x 16, x 17, x 18, x 19, x 20, x 21, x 22, x 23, x 24, x 25, x 26, x 27, x 28, x 29, x 30, x 31, x 32, x 33, x 34, x 35, x 36, x 37, x 38, x 39, x 40, x 41, x 42, x 43, x 44, x 45], defers := [] } := by
  refine ⟨fun i => a.tmps.getD i undef, ?_⟩
  obtain ⟨t, d⟩ := a
  obtain ⟨h1, h2, h3, h4, h5⟩ := h
  simp only at h1 h2 h3 h4 h5
  subst h1
  have e6 : t.getD 6 undef = .pointer (some ⟨A.e, 0, none⟩) := by rw [Array.getD_eq_getD_getElem?, h3]; rfl
  have e7 : t.getD 7 undef = .pointer (some ⟨A.s, 0, none⟩) := by rw [Array.getD_eq_getD_getElem?, h4]; rfl
  have e8 : t.getD 8 undef = v := by rw [Array.getD_eq_getD_getElem?, h5]; rfl
  have ht := tmps46 t h2
  rw [← e6, ← e7, ← e8]
  exact congrArg (fun t => ({ tmps := t, defers := [] } : Act)) ht
theorem za_lit {A : Ad} {v : Value} (x : Nat → Value) : ZA A v { tmps := #[x 0, x 1, x 2, x 3, x 4, x 5, .pointer (some ⟨A.e, 0, none⟩), .pointer (some ⟨A.s, 0, none⟩), v, x 9, x 10, x 11, x 12, x 13, x 14, x 15, x 16, x 17, x 18, x 19, x 20, x 21, x 22, x 23, x 24, x 25, x 26, x 27, x 28, x 29, x 30, x 31, x 32, x 33, x 34, x 35, x 36, x 37, x 38, x 39, x 40, x 41, x 42, x 43, x 44, x 45], defers := [] } := ⟨rfl, rfl, rfl, rfl, rfl⟩
def fstC : Code → Code
  | .seq a _ => a
  | _ => .skip
noncomputable abbrev zzReg : Code := fstC (cutTail 1 zzIn)
theorem zz_cut : cutTail 1 zzIn = .seq zzReg (cutTail 2 zzIn) := by kernel_rfl
set_option maxHeartbeats 3200000 in
theorem zz_mid {A : Ad} (hA : A.Ok) {st : St} {w : World} (hI : SInv A st w) (hT : Tabs w) (hk : Rk st) (v : Value) (n : Nat) (xs : List Value) (hown : w.ownsRow A.base 57 9 v n xs) (hbase : A.base ≤ w.heap.size) (hn : n ≤ 1000000)
    (a0 : v.ownBlock ≠ some A.s) (a1 : v.ownBlock ≠ some 1) (a2 : v.ownBlock ≠ some 2) (Q : Exit → Act → World → Prop) (x : Nat → Value)
    (hQ : ∀ (k gg cap : Nat) (w1 : World) (a : Act), w1.ownsRow A.base 57 9 (.slice (some ⟨gg, 0, none⟩) (n + 1) cap) (n + 1) (xs ++ tokCells st) → ((w.drewN k).alloc (.cells (tokCells st).toArray 57)).grownBy w1 v.ownBlock → (v.ownBlock = some gg ∨ gg = w.heap.size + 1) → gg < w1.heap.size → Tabs w1 →
      ZA A (.slice (some ⟨gg, 0, none⟩) (n + 1) cap) a → Q .normal a w1) :
    zzReg.wp Tryd.prog Q { tmps := #[x 0, x 1, x 2, x 3, x 4, x 5, .pointer (some ⟨A.e, 0, none⟩), .pointer (some ⟨A.s, 0, none⟩), v, x 9, x 10, x 11, x 12, x 13, x 14, x 15, x 16, x 17, x 18, x 19, x 20, x 21, x 22, x 23, x 24, x 25, x 26, x 27, x 28, x 29, x 30, x 31, x 32, x 33, x 34, x 35, x 36, x 37, x 38, x 39, x 40, x 41, x 42, x 43, x 44, x 45], defers := [] } w := by
  have c13 := sval hI (o := 13) rfl
  have c14 := sval hI (o := 14) rfl
  have c15 := sval hI (o := 15) rfl
  have c16 := sval hI (o := 16) rfl
  have c17 := sval hI (o := 17) rfl
  have c18 := sval hI (o := 18) rfl
  have c19 := sval hI (o := 19) rfl
  have c20 := sval hI (o := 20) rfl
  have c21 := sval hI (o := 21) rfl
  obtain ⟨⟨k1, k2⟩, k3, k4⟩ := hk
  have ls := World.block_lt_of_cell? w _ c13
  clear hI
  simp only [zzReg, fstC, zzIn, zzBody, bodyOf, Tryd.f30, Option.getD, blkOf, cutTail, cutN, Option.map, Nat.beq, cond]
  have hz := fun v' => za_lit (A := A) (v := v')
  generalize hs : A.s = s at *
  generalize A.base = base at *
  go_region_held3 (fun w' => w'.cell? ⟨s, 13, none⟩ = some (.int .u64 st.line) ∧ w'.cell? ⟨s, 14, none⟩ = some (.int .u64 st.col) ∧ w'.cell? ⟨s, 15, none⟩ = some (.bool st.blank) ∧ w'.cell? ⟨s, 16, none⟩ = some (.int .u64 st.tok) ∧
      w'.cell? ⟨s, 17, none⟩ = some (.string st.lit) ∧ w'.cell? ⟨s, 18, none⟩ = some (.bool st.bad) ∧ w'.cell? ⟨s, 19, none⟩ = some (.int .u8 st.kind) ∧ w'.cell? ⟨s, 20, none⟩ = some (.int .u64 st.op) ∧ w'.cell? ⟨s, 21, none⟩ = some (.int .i64 st.prec) ∧ Tabs w')
    (first
      | (go_split_ands; refine ⟨?_, ?_, ?_, ?_, ?_, ?_, ?_, ?_, ?_, ?_⟩ <;> first
          | exact Tabs.drew (by assumption)
          | exact Tabs.drewN (by assumption) _
          | exact Tabs.alloc (by assumption) _
          | (go_keep; done)
          | (rw [hgrow.cell_far _ (by simp; omega) (Ne.symm a0)]; assumption)
          | exact Tabs.grown (by assumption) hgrow (Ne.symm a1) (Ne.symm a2)))
    (first
      | (go_at_call 53; go_split_ands; refine (tokS_walk _ (Tabs.tok (by assumption)) st.tok k1 k2).mono ?_; rintro en w' ⟨rfl, m, rfl⟩)
      | (go_at_call 54; go_split_ands; refine (opS_walk _ (Tabs.op (by assumption)) st.op k3 k4).mono ?_; rintro en w' ⟨rfl, m, rfl⟩)
      | (refine zz_app (st := st) hown hbase hn (by rfl) _ _ (by rfl) (by rfl) (by rfl) ?_; intro gg cap w1 hown1 hgrow hat hlt))
  go_split_ands
  exact hQ _ gg cap w1 _ hown1 hgrow hat hlt (by assumption) ⟨rfl, rfl, rfl, by rw [hs]; rfl, rfl⟩
end Sc
end Go.Proofs.YtogkcphobhhbdaaDoor

/- ZZScan: a round's test. -/
namespace Go.Proofs.YtogkcphobhhbdaaDoor
open Go Go.RowKit Go.Lib
namespace Sc
open Ev
set_option maxRecDepth 100000
theorem zz_fin {A : Ad} {st : St} {w : World} (hI : SInv A st w) (v : Value) (a : Act) (hz : ZA A v a) (Q : Exit → Act → World → Prop)
    (h1 : st.tok ≠ 1 → ∀ a', ZA A v a' → Q .normal a' w)
    (h2 : st.tok = 1 → ∀ ve a' w', w'.heap = w.heap → w'.os = w.os → w'.tape = w.tape → w'.output = w.output → w.cell? ⟨A.e, 0, none⟩ = some ve → a'.defers = [] → a'.tmps[4]? = some v → a'.tmps[5]? = some ve → Q .ret a' w') :
    (cutTail 2 zzIn).wp Tryd.prog Q a w := by
  obtain ⟨x, rfl⟩ := hz.lit
  have c16 := sval hI (o := 16) rfl
  obtain ⟨x0, hx, _⟩ := hI
  obtain ⟨ve, hve, _⟩ := hx.he
  have ce := cell_of_block hve (o := 0) (v := ve) rfl
  have ls := World.block_lt_of_cell? w _ c16
  clear hx hve
  simp only [zzIn, zzBody, bodyOf, Tryd.f30, Option.getD, blkOf, cutTail, cutN, Option.map, Nat.beq, cond]
  generalize hs : A.s = s at *
  generalize he : A.e = e at *
  go_wp2
  · rename_i ht K hK
    have ht1 : st.tok = 1 := by simpa using ht
    clear hz
    go_region_held3 (fun w' => w'.cell? ⟨e, 0, none⟩ = some ve) (go_keep) (fail)
    all_goals (simp only [Exit.then]; refine hK _ _ (wp_ret ?_); refine h2 ht1 ve _ _ ?_ ?_ ?_ ?_ ce ?_ ?_ ?_ <;> rfl)
  · rename_i ht
    exact h1 (by simpa using ht) _ ⟨rfl, rfl, by rw [he]; rfl, by rw [hs]; rfl, rfl⟩
end Sc
end Go.Proofs.YtogkcphobhhbdaaDoor

/- ZZScan: next is called. -/
namespace Go.Proofs.YtogkcphobhhbdaaDoor
open Go Go.RowKit Go.Lib
namespace Sc
open Ev
set_option maxRecDepth 100000
theorem next_calls {A : Ad} (hA : A.Ok) {st : St} {w : World} (hI : SInv A st w) (hp : Pos0 A.src st) (hb : (nextF A.src st).1.notes.length < lim) :
    Calls Tryd.prog 52 #[.pointer (some ⟨A.s, 0, none⟩)] w (fun e w' => e = .returned (.tuple #[]) ∧ SInv A (nextF A.src st).1 w' ∧ Fr (SY A) [] w w') := by
  obtain ⟨_, h, _⟩ := nxtS_ok A hA
  have hc : InvC (SY A) [] ⟨st, []⟩ w := ⟨hI, rfl, List.nodup_nil, fun i b u h => by simp at h, fun b h => by simp at h⟩
  have hr : Rels (SY A) [] w [.st 0] [.pointer (some ⟨A.s, 0, none⟩)] := .cons rfl .nil
  have := h [.st 0] ⟨st, []⟩ [] w [.pointer (some ⟨A.s, 0, none⟩)] (fun p => p = (unit, ⟨(nextF A.src st).1, (nextF A.src st).2⟩)) hr hc ⟨⟨hp, hA.n1⟩, rfl⟩
  refine Calls.mono this ?_
  rintro e w' (⟨sv, c', v, bl', hq, rfl, hrel, hinv, hext, _⟩ | ⟨rfl, p, rfl, hbig⟩)
  · cases hq
    have hv : v = .tuple #[] := hrel
    exact ⟨by rw [hv], hinv.inv, hext.fr⟩
  · exact absurd hbig (Nat.not_le.2 hb)
/-! What stays so. -/
theorem tabs_of {A : Ad} {st : St} {w : World} (hI : SInv A st w) : Tabs w := by
  obtain ⟨x, hx, _⟩ := hI
  have hg := hx.ok.glob
  have hs := hg.size
  exact ⟨fun i hi => by rw [World.cell?_of_block (w := A.w0) (a := ⟨1, i, none⟩) (hx.below.block _ (by show 1 < _; omega))]; exact hg.tix i hi,
    fun i hi => by rw [World.cell?_of_block (w := A.w0) (a := ⟨2, i, none⟩) (hx.below.block _ (by show 2 < _; omega))]; exact hg.oix i hi⟩
theorem own_ety {w : World} {base n : Nat} {e : TypeId} {sz : Nat} {v : Value} {xs : List Value} (h : w.ownsRow base e sz v n xs) {k : Nat} (hk : v.ownBlock = some k) : base ≤ k ∧ ety w k = some e ∧ k < w.heap.size := by
  rcases h.2 with ⟨rfl, _⟩ | ⟨g, cap, cur, rfl, hb, hh, _⟩
  · simp [Value.ownBlock] at hk
  · have : g = k := by simpa [Value.ownBlock] using hk
    subst this
    exact ⟨hb, ety_of_block hh, (Array.getElem?_eq_some_iff.1 hh).1⟩
theorem kept_drewN {A : Ad} {w : World} (n : Nat) : Kept A w (w.drewN n) :=
  ⟨⟨rfl, rfl, rfl, Nat.le_refl _, fun _ _ => rfl⟩, fun _ _ hu _ hown => ⟨hu, hown⟩, rfl, rfl, rfl, rfl, Nat.le_refl _⟩
theorem own_block {w w' : World} {base n : Nat} {e : TypeId} {sz : Nat} {v : Value} {xs : List Value} (h : w.ownsRow base e sz v n xs) (hb : ∀ k, v.ownBlock = some k → w'.heap[k]? = w.heap[k]?) : w'.ownsRow base e sz v n xs := by
  obtain ⟨h1, h2⟩ := h
  refine ⟨h1, ?_⟩
  rcases h2 with h2 | ⟨g, cap, cur, hv, hg, hh, r⟩
  · exact .inl h2
  · exact .inr ⟨g, cap, cur, hv, hg, by rw [hb g (by rw [hv]; rfl)]; exact hh, r⟩
theorem kept_grown {A : Ad} {x : Raw} {w w' : World} {row : Option Nat} (h : RInv A x w) (hg : w.grownBy w' row) (hr : ∀ k, row = some k → A.base ≤ k ∧ ety w k ≠ some 59) : Kept A w w' := by
  have l1 := lt_s h
  have l2 := lt_buf h
  have b0 := h.below.size
  have := h.ok.s_rd; have := h.ok.rd_buf; have := h.ok.buf_base; have := h.hsize; have := h.ok.e_s; have := h.ok.sb_e; have := h.ok.lo_sb
  have ne : ∀ k, k < A.base → some k ≠ row := fun k hk e => by have := (hr k e.symm).1; omega
  have g := fun k (hk : k < A.base) => hg.block k (by omega) (ne k hk)
  refine ⟨⟨hg.os, hg.tape, hg.output, hg.size, fun k hk => g k (by omega)⟩, fun n u hu xs hown => ⟨by rw [g A.e (by omega)]; exact hu, own_block hown (fun k hk => ?_)⟩, g _ (by omega), g _ (by omega), g _ (by omega), g _ (by omega), hg.size⟩
  obtain ⟨h1, h2, h3⟩ := own_ety hown hk
  exact hg.block k h3 (fun e => (hr k e.symm).2 h2)
theorem sinv_kept {A : Ad} {st : St} {w w' : World} (h : SInv A st w) (hk : ∀ x, RInv A x w → Kept A w w') : SInv A st w' := by
  obtain ⟨x, hx, ha⟩ := h
  exact ⟨x, hx.kept (hk x hx), ha⟩
theorem ety_alloc {w : World} {o : Obj} {k : Nat} (h : k < w.heap.size) : ety (w.alloc o) k = ety w k := by unfold Ev.ety World.shape?; rw [Below.heap_alloc _ _ _ h]
/-- Behind an append to the tokens the scanner is as it was. -/
theorem sinv_app {A : Ad} {st : St} {w w1 : World} {v : Value} {n k : Nat} {xs : List Value} {o : Obj} (hI : SInv A st w) (hown : w.ownsRow A.base 57 9 v n xs) (hg : ((w.drewN k).alloc o).grownBy w1 v.ownBlock) : SInv A st w1 := by
  have h1 : SInv A st (w.drewN k) := sinv_kept hI (fun _ _ => kept_drewN k)
  have h2 : SInv A st ((w.drewN k).alloc o) := sinv_kept h1 (fun _ hx => kept_alloc hx o)
  refine sinv_kept h2 (fun _ hx => kept_grown hx hg (fun b hb => ?_))
  obtain ⟨g1, g2, g3⟩ := own_ety hown hb
  refine ⟨g1, ?_⟩
  rw [ety_alloc (w := w.drewN k) g3]
  show ety w b ≠ _
  rw [g2]
  decide
theorem fr_own {A : Ad} {w w1 : World} {v : Value} {n : Nat} {xs : List Value} (hA : A.Ok) (hf : Fr (SY A) [] w w1) (hown : w.ownsRow A.base 57 9 v n xs) (hw : A.w0.heap.size ≤ A.base) : w1.ownsRow A.base 57 9 v n xs := by
  refine own_block hown (fun k hk => ?_)
  obtain ⟨g1, g2, g3⟩ := own_ety hown hk
  have := hA.s_rd; have := hA.rd_buf; have := hA.buf_base; have := hA.e_s; have := hA.sb_e
  refine hf.keep k g3 ?_ (by simp)
  show ¬ (k < A.w0.heap.size ∨ k = A.s ∨ k = A.buf ∨ k = A.rd ∨ k = A.e ∨ k = A.sb ∨ (A.base ≤ k ∧ ety w k = some 59))
  rw [g2]
  simp only [not_or, not_and]
  exact ⟨by omega, by omega, by omega, by omega, by omega, by omega, fun _ => by decide⟩
/-! A round begins with next. -/
noncomputable abbrev zzCall : Code := fstC zzIn
theorem zz_cut1 : zzIn = .seq zzCall (cutTail 1 zzIn) := by kernel_rfl
theorem zz_call {A : Ad} (hA : A.Ok) {st : St} {w : World} (hI : SInv A st w) (hp : Pos0 A.src st) (hb : (nextF A.src st).1.notes.length < lim) (v : Value) (a : Act) (hz : ZA A v a) (Q : Exit → Act → World → Prop)
    (hQ : ∀ a' w', ZA A v a' → SInv A (nextF A.src st).1 w' → Fr (SY A) [] w w' → Q .normal a' w') : zzCall.wp Tryd.prog Q a w := by
  obtain ⟨x, rfl⟩ := hz.lit
  have hN := next_calls hA hI hp hb
  clear hI
  simp only [zzCall, fstC, zzIn, zzBody, bodyOf, Tryd.f30, Option.getD, blkOf, cond, Nat.beq]
  clear hz
  go_wp2_with (refine hN.mono ?_; rintro en w' ⟨rfl, hI', hF⟩)
  exact hQ _ _ ⟨rfl, rfl, rfl, rfl, rfl⟩ hI' hF
end Sc
end Go.Proofs.YtogkcphobhhbdaaDoor

/- ZZScan: its loop. -/
namespace Go.Proofs.YtogkcphobhhbdaaDoor
open Go Go.RowKit Go.Lib
namespace Sc
open Ev
set_option maxRecDepth 100000
/-- Rows put end to end. -/
def flat {α β : Type} (f : α → List β) : List α → List β
  | [] => []
  | s :: l => f s ++ flat f l
theorem flat_append {α β : Type} (f : α → List β) (l k : List α) : flat f (l ++ k) = flat f l ++ flat f k := by
  induction l with
  | nil => rfl
  | cons a l ih => simp [flat, ih]
theorem flat_get {α β : Type} {f : α → List β} {k : Nat} (hf : ∀ a, (f a).length = k) : ∀ (l : List α) (i j : Nat) (a : α), l[i]? = some a → j < k → (flat f l)[i * k + j]? = (f a)[j]?
  | [], i, j, a, h, _ => by simp at h
  | b :: l, 0, j, a, h, hj => by
    simp only [List.getElem?_cons_zero, Option.some.injEq] at h
    subst h
    simp only [flat, Nat.zero_mul, Nat.zero_add]
    rw [List.getElem?_append_left (by rw [hf]; exact hj)]
  | b :: l, i + 1, j, a, h, hj => by
    simp only [List.getElem?_cons_succ] at h
    simp only [flat]
    rw [List.getElem?_append_right (by rw [hf, Nat.add_mul]; omega), hf, show (i + 1) * k + j - k = i * k + j by rw [Nat.add_mul]; omega]
    exact flat_get hf l i j a h hj
/-- The cells of tokens told. -/
abbrev rowOf : List St → List Value := flat tokCells
/-- What is told stays little. -/
def Nb (src : ByteArray) (st : St) : Prop := st.notes.length + 7000 * (meas src st + 1) ≤ 60000000
theorem nb_next {src : ByteArray} {st : St} (hI : Iv src st) (h : Nb src st) : (nextF src st).1.notes.length ≤ 60000000 ∧ ((nextF src st).1.tok ≠ 1 → Nb src (nextF src st).1) := by
  obtain ⟨hI', hk, ht, hlt⟩ := iv_next hI
  have hc := nextF_cn hI.pos hI.sz
  have hl := (nextF_sat hI.pos hI.sz).2.1.left
  have ml : 2 * left src st ≤ meas src st := by unfold meas; omega
  have mu : meas src st ≤ 2 * left src st + 1 := by unfold meas; split <;> omega
  have ml' : 2 * left src (nextF src st).1 ≤ meas src (nextF src st).1 := by unfold meas; omega
  have mu' : meas src (nextF src st).1 ≤ 2 * left src (nextF src st).1 + 1 := by unfold meas; split <;> omega
  unfold Nb at h ⊢
  exact ⟨by omega, fun hne => by have h2 := hlt hne; omega⟩
theorem nb_start {src : ByteArray} (m : Int) (hs : src.size ≤ 2048) : Nb src (stI m) := by
  have h2 : meas src (stI m) ≤ 8196 := by
    have : left src (stI m) = 2 * (src.size - 0) + 1 := rfl
    unfold meas
    rw [if_neg (show ¬ (stI m).nlsemi = true from fun h => by cases h)]
    omega
  have h3 : (stI m).notes.length = 0 := rfl
  unfold Nb; omega
structure Lp (A : Ad) (st : St) (v : Value) (n : Nat) (xs : List Value) (a : Act) (w : World) : Prop where
  inv : SInv A st w
  own : w.ownsRow A.base 57 9 v n xs
  za : ZA A v a
  iv : Iv A.src st
  nb : Nb A.src st
theorem zz_loop {A : Ad} (hA : A.Ok) (Q : Exit → Act → World → Prop) : ∀ (m : Nat) (st : St) (v : Value) (n : Nat) (xs : List Value) (a : Act) (w : World), Lp A st v n xs a w → meas A.src st < m → n + m ≤ 1000000 →
    (∀ v' ve a' w', w'.ownsRow A.base 57 9 v' (n + (toksN A.src m st).length) (xs ++ rowOf (toksN A.src m st)) → SInv A (lastN A.src m st) w' → w'.cell? ⟨A.e, 0, none⟩ = some ve → a'.defers = [] → a'.tmps[4]? = some v' → a'.tmps[5]? = some ve → Q .ret a' w') →
    Code.rounds Tryd.prog zzRound (Exit.inBlock 0 Q) m a w
  | 0, _, _, _, _, _, _, _, h, _, _ => absurd h (Nat.not_lt_zero _)
  | m + 1, st, v, n, xs, a, w, h, hm, hn, hQ => by
    obtain ⟨hI', hk, _, hlt⟩ := iv_next h.iv
    obtain ⟨hb, hnb⟩ := nb_next h.iv h.nb
    have hb' : (nextF A.src st).1.notes.length < lim := by unfold lim; omega
    have hlo : A.w0.heap.size ≤ A.base := by have := hA.s_rd; have := hA.rd_buf; have := hA.buf_base; have := hA.lo_s; omega
    have h20 := hA.glob.size
    rw [rounds_succ, zz_round]
    refine wp_block ?_
    rw [zz_cut1]
    refine wp_seq (zz_call hA h.inv h.iv.pos hb' v a h.za _ (fun a1 w1 z1 i1 f1 => ?_))
    show (cutTail 1 zzIn).wp _ _ a1 w1
    have own1 := fr_own hA f1 h.own hlo
    rw [zz_cut]
    obtain ⟨x, rfl⟩ := z1.lit
    have hbase : A.base ≤ w1.heap.size := by obtain ⟨x0, hx, _⟩ := i1; exact hx.hsize
    have ne : ∀ k, k < A.base → v.ownBlock ≠ some k := fun k hk e => by have := (own_ety own1 e).1; omega
    refine wp_seq (zz_mid hA i1 (tabs_of i1) hk v n xs own1 hbase (by omega) (ne _ (by have := hA.s_rd; have := hA.rd_buf; have := hA.buf_base; omega)) (ne _ (by show 1 < _; omega)) (ne _ (by show 2 < _; omega)) _ x (fun k gg cap w2 a2 own2 grow hat lt tabs2 z2 => ?_))
    show (cutTail 2 zzIn).wp _ _ a2 w2
    have i2 := sinv_app i1 own1 grow
    refine zz_fin i2 _ a2 z2 _ (fun hne a3 z3 => ?_) (fun he ve a3 w3 e1 e2 e3 e4 ce d0 d4 d5 => ?_)
    · show Code.rounds Tryd.prog zzRound (Exit.inBlock 0 Q) m a3 w2
      refine zz_loop hA Q m (nextF A.src st).1 _ (n + 1) (xs ++ tokCells (nextF A.src st).1) a3 w2 ⟨i2, own2, z3, hI', hnb hne⟩ (by have := hlt hne; omega) (by omega) (fun v' ve a' w' o1 o2 o3 o4 o5 o6 => hQ v' ve a' w' ?_ ?_ o3 o4 o5 o6)
      · rw [toksN, if_neg hne]
        simp only [rowOf, flat, List.length_cons]
        rw [show n + ((toksN A.src m (nextF A.src st).1).length + 1) = n + 1 + (toksN A.src m (nextF A.src st).1).length by omega, ← List.append_assoc]
        exact o1
      · rw [lastN, if_neg hne]; exact o2
    · show Q .ret a3 w3
      have hB : Below w2.heap.size w2 w3 := ⟨e2, e3, e4, by rw [e1]; exact Nat.le_refl _, fun k _ => by rw [e1]⟩
      refine hQ _ ve a3 w3 ?_ ?_ ?_ d0 d4 d5
      · rw [toksN, if_pos he]
        simp only [rowOf, flat, List.length_cons, List.length_nil, List.append_nil]
        exact own_below hB own2
      · rw [lastN, if_pos he]; exact sinv_kept i2 (fun _ hx => kept_below hx hB)
      · rw [World.cell?_of_block (w := w2) (a := ⟨A.e, 0, none⟩) (by show w3.heap[A.e]? = w2.heap[A.e]?; rw [e1])]; exact ce
end Sc
end Go.Proofs.YtogkcphobhhbdaaDoor

/- ZZScan told whole. -/
namespace Go.Proofs.YtogkcphobhhbdaaDoor
open Go Go.RowKit Go.Lib
namespace Sc
open Ev
set_option maxRecDepth 100000
noncomputable abbrev zz0 : Code := fstC (cutTail 0 zzBody)
noncomputable abbrev zz1 : Code := fstC (cutTail 1 zzBody)
noncomputable abbrev zz2 : Code := fstC (cutTail 2 zzBody)
noncomputable abbrev zz3 : Code := fstC (cutTail 3 zzBody)
noncomputable abbrev zz4 : Code := fstC (cutTail 4 zzBody)
theorem zz_body : (Tryd.f30).body = some (.seq zz0 (.seq zz1 (.seq zz2 (.seq zz3 (.seq zz4 (.block 0 (.loop zzRound))))))) := by kernel_rfl
theorem w2I_size (w : World) : (w2I w).heap.size = w.heap.size + 2 := by simp [w2I, w1I]
theorem newR (w : World) (sb n scap : Nat) : Calls Tryd.prog 50 #[.slice (some ⟨sb, 0, none⟩) n scap] (w2I w) fun en w' => en = .returned (.pointer (some ⟨w.heap.size + 2, 0, none⟩)) ∧ w' = w3I w sb n scap := by
  have h := newReader_walk (w2I w) (.slice (some ⟨sb, 0, none⟩) n scap) rfl ⟨_, _, _, rfl⟩
  rw [w2I_size] at h
  exact h
theorem init4 (w : World) (sb n scap : Nat) (m : Int) : Calls Tryd.prog 49 #[.pointer (some ⟨w.heap.size + 1, 0, none⟩), .iface 91 (.pointer (some ⟨w.heap.size + 2, 0, none⟩)), .func (.func 51) #[] #[.pointer (some ⟨w.heap.size, 0, none⟩)], .int .u64 m] (w3I w sb n scap) fun en w' => en = .returned (.tuple #[]) ∧ w' = w4I w sb n scap m :=
  init_walk (w3I w sb n scap) (w.heap.size + 1) (w.heap.size + 2) w.heap.size m (w3I_s _ _ _ _)
theorem zz_first (w : World) (sb n scap : Nat) (m : Int) (B : Code) (Q : Exit → Act → World → Prop)
    (hQ : ∀ a, a.defers = [] → a.tmps.size = 46 → a.tmps[6]? = some (.pointer (some ⟨w.heap.size, 0, none⟩)) → a.tmps[7]? = some (.pointer (some ⟨w.heap.size + 1, 0, none⟩)) → a.tmps[8]? = some (.slice none 0 0) → B.wp Tryd.prog Q a (w4I w sb n scap m)) :
    (Code.seq zz0 (.seq zz1 (.seq zz2 (.seq zz3 (.seq zz4 B))))).wp Tryd.prog Q { tmps := #[.slice (some ⟨sb, 0, none⟩) n scap, .int .u64 m] ++ Array.replicate 44 undef, defers := [] } w := by
  have hN := newR w sb n scap
  have hI := init4 w sb n scap m
  simp only [zz0, zz1, zz2, zz3, zz4, fstC, zzBody, bodyOf, Tryd.f30, Option.getD, cutTail, cutN, Option.map, Array.replicate_succ, Array.replicate_zero, List.push_toArray, List.append_toArray, List.nil_append, List.cons_append]
  go_wp2_with (first | (refine hN.mono ?_; rintro en w' ⟨rfl, rfl⟩) | (refine hI.mono ?_; rintro en w' ⟨rfl, rfl⟩))
  exact hQ _ rfl rfl rfl rfl rfl
theorem zz_res {a : Act} {w : World} {v ve : Value} (h4 : a.tmps[4]? = some v) (h5 : a.tmps[5]? = some ve) : (results Tryd.f30 a.tmps).run Tryd.prog w = .ok (.tuple #[v, ve]) w := by
  have e : (Tryd.f30).results = #[.tmp 4, .tmp 5] := by kernel_rfl
  have e4 : a.tmps.getD 4 undef = v := by rw [Array.getD_eq_getD_getElem?, h4]; rfl
  have e5 : a.tmps.getD 5 undef = ve := by rw [Array.getD_eq_getD_getElem?, h5]; rfl
  simp [results, e, h4, h5, go_sem]
theorem zzscan {w0 w : World} {sb scap : Nat} {ea : Addr} {src : ByteArray} (h : Start w0 w sb scap ea src) (m : Int) :
    Calls Tryd.prog 30 #[.slice (some ⟨sb, 0, none⟩) src.size scap, .int .u64 m] w fun en w' => ∃ v ve, en = .returned (.tuple #[v, ve]) ∧
      w'.ownsRow (w.heap.size + 4) 57 9 v (toks src m).length (rowOf (toks src m)) ∧ w'.ownsRow (w.heap.size + 4) 59 3 ve (last src m).notes.length (noteCells (last src m).notes) ∧ Below w0.heap.size w0 w' := by
  have hA := start_ok h
  have hI := start_inv h m
  refine calls_of_wp Tryd.func30 zz_body ?_
  have hnt : (Tryd.f30).ntmps - (#[.slice (some ⟨sb, 0, none⟩) src.size scap, .int .u64 m] : Array Value).size = 44 := by kernel_rfl
  rw [hnt]
  refine zz_first w sb src.size scap m _ _ (fun a d0 ds d6 d7 d8 => ?_)
  refine wp_block (wp_loop_rounds (meas src (stI m) + 1) ?_)
  have hz : ZA (adOf w0 w sb scap ea src) (.slice none 0 0) a := ⟨d0, ds, d6, d7, d8⟩
  have hms : meas src (stI m) ≤ 8196 := by
    have hn : src.size ≤ 2048 := h.n
    have : left src (stI m) = 2 * (src.size - 0) + 1 := rfl
    unfold meas
    rw [if_neg (show ¬ (stI m).nlsemi = true from fun h => by cases h)]
    omega
  refine zz_loop hA _ (meas src (stI m) + 1) (stI m) (.slice none 0 0) 0 [] a _ ⟨hI, World.ownsRow_nil _ _ _ _, hz, iv_start src m h.n, nb_start m h.n⟩ (Nat.lt_succ_self _) (by omega) (fun v ve a' w' o1 o2 o3 o4 o5 o6 => ?_)
  obtain ⟨x, hx, ha⟩ := o2
  obtain ⟨u, hu, hr⟩ := hx.he
  have hue : u = ve := Option.some.inj ((cell_of_block hu (o := 0) (v := u) rfl).symm.trans o3)
  subst hue
  rw [notes_abs ha] at hr
  have o1' : w'.ownsRow (w.heap.size + 4) 57 9 v (toks src m).length (rowOf (toks src m)) := by
    have := o1
    rw [Nat.zero_add, List.nil_append] at this
    exact this
  exact ⟨o4, _, zz_res o5 o6, v, u, rfl, o1', hr, hx.below⟩
end Sc
end Go.Proofs.YtogkcphobhhbdaaDoor

/- impl.Scan: its first loop. -/
namespace Go.Proofs.YtogkcphobhhbdaaDoor
open Go Go.RowKit Go.Lib
namespace Sc
open Ev
set_option maxRecDepth 100000
theorem tmpsN (N : Nat) (t : Array Value) (h : t.size = N) : t = ((List.range N).map fun i => t.getD i undef).toArray := by
  apply Array.ext_getElem?
  intro i
  simp only [List.getElem?_toArray, List.getElem?_map]
  by_cases hi : i < N
  · rw [List.getElem?_range hi]
    simp [h, hi]
  · rw [Array.getElem?_eq_none (by omega), List.getElem?_eq_none (by simp; omega)]; rfl
/-- Known slots of a frame of 74. -/
structure SA (ve vo vr vn vi : Value) (a : Act) : Prop where
  defers : a.defers = []
  size : a.tmps.size = 74
  s7 : a.tmps[7]? = some ve
  s8 : a.tmps[8]? = some vo
  s22 : a.tmps[22]? = some vr
  s23 : a.tmps[23]? = some vn
  s24 : a.tmps[24]? = some vi
theorem SA.lit {ve vo vr vn vi : Value} {a : Act} (h : SA ve vo vr vn vi a) : ∃ x : Nat → Value, a = { tmps := #[x 0, x 1, x 2, x 3, x 4, x 5, x 6, ve, vo, x 9, x 10, x 11, x 12, x 13, x 14, x 15, x 16, x 17, x 18, x 19, x 20, x 21, vr, vn, vi, x 25, x 26, x 27, x 28, x 29, x 30, x 31, x 32, x 33, x 34, x 35, x 36, x 37, x 38, x 39, x 40, x 41, x 42, x 43, x 44, x 45, x 46, x 47, x 48, x 49, x 50, x 51, x 52, x 53, x 54, x 55, x 56, x 57, x 58, x 59, x 60, x 61, x 62, x 63, x 64, x 65, x 66, x 67, x 68, x 69, x 70, x 71, x 72, x 73], defers := [] } := by
  refine ⟨fun i => a.tmps.getD i undef, ?_⟩
  obtain ⟨t, d⟩ := a
  obtain ⟨h1, h2, k7, k8, k22, k23, k24⟩ := h
  simp only at h1 h2 k7 k8 k22 k23 k24
  subst h1
  have e7 : t.getD 7 undef = ve := by rw [Array.getD_eq_getD_getElem?, k7]; rfl
  have e8 : t.getD 8 undef = vo := by rw [Array.getD_eq_getD_getElem?, k8]; rfl
  have e22 : t.getD 22 undef = vr := by rw [Array.getD_eq_getD_getElem?, k22]; rfl
  have e23 : t.getD 23 undef = vn := by rw [Array.getD_eq_getD_getElem?, k23]; rfl
  have e24 : t.getD 24 undef = vi := by rw [Array.getD_eq_getD_getElem?, k24]; rfl
  have ht := tmpsN 74 t h2
  rw [← e7, ← e8, ← e22, ← e23, ← e24]
  exact congrArg (fun t => ({ tmps := t, defers := [] } : Act)) ht
theorem SA.of {ve vo vr vn vi : Value} (x : Nat → Value) : SA ve vo vr vn vi { tmps := #[x 0, x 1, x 2, x 3, x 4, x 5, x 6, ve, vo, x 9, x 10, x 11, x 12, x 13, x 14, x 15, x 16, x 17, x 18, x 19, x 20, x 21, vr, vn, vi, x 25, x 26, x 27, x 28, x 29, x 30, x 31, x 32, x 33, x 34, x 35, x 36, x 37, x 38, x 39, x 40, x 41, x 42, x 43, x 44, x 45, x 46, x 47, x 48, x 49, x 50, x 51, x 52, x 53, x 54, x 55, x 56, x 57, x 58, x 59, x 60, x 61, x 62, x 63, x 64, x 65, x 66, x 67, x 68, x 69, x 70, x 71, x 72, x 73], defers := [] } := ⟨rfl, rfl, rfl, rfl, rfl, rfl, rfl⟩
noncomputable abbrev scBody : Code := bodyOf Tryd.f15
noncomputable abbrev scLoop : Code := loopOf (blkOf scBody 0)
/-- A token as it is handed on. -/
def outCells (st : St) : List Value := [.int .i64 (wrap64 st.line), .int .i64 (wrap64 st.col), .bool st.blank, .string (tokWord st.tok.toNat), .string st.lit, .bool st.bad, .int .i64 (wrap64 st.kind), .string (opStr st.op), .int .i64 st.prec]
theorem info_out : (Tryd.prog.info? 27).map (fun i => (i.zero, i.size, i.bytes)) = some (some (.agg #[.int .i64 0, .int .i64 0, .bool false, .string ⟨#[]⟩, .string ⟨#[]⟩, .bool false, .int .i64 0, .string ⟨#[]⟩, .int .i64 0]), 9, 96) := by kernel_rfl
/-- A token is appended to those handed on. -/
theorem sc_app {w : World} {o1 : Obj} {base n : Nat} {v : Value} {xs : List Value} {st : St} (hown : w.ownsRow base 27 9 v n xs) (hbase : base ≤ w.heap.size) (hn : n ≤ 1000000)
    {ops : Array Oper} {rest : List Oper} {o : Oper} {a : Act} {Q : Exit → Act → World → Prop} (hgd : o.guard = none) (s x : Operand)
    (ho : o.op = .call { callee := .builtin .append, args := #[s, x], argTypes := #[22, 22] }) (hs : a.eval s = v) (hx : a.eval x = .slice (some ⟨w.heap.size + 1, 0, none⟩) 1 1)
    (h : ∀ g cap w', w'.ownsRow base 27 9 (.slice (some ⟨g, 0, none⟩) (n + 1) cap) (n + 1) (xs ++ outCells st) → ((w.alloc o1).alloc (.cells (outCells st).toArray 27)).grownBy w' v.ownBlock → wpList Tryd.prog ops Q rest (a.put o.dst (.slice (some ⟨g, 0, none⟩) (n + 1) cap)) w') :
    wpList Tryd.prog ops Q (o :: rest) a ((w.alloc o1).alloc (.cells (outCells st).toArray 27)) := by
  obtain ⟨i0, hi0, hz0, hz1, hz2⟩ := info_parts info_out
  have hsz : ((w.alloc o1).alloc (.cells (outCells st).toArray 27)).heap.size = w.heap.size + 2 := by simp
  have hsz1 : (w.alloc o1).heap.size = w.heap.size + 1 := by simp
  have hlen : (outCells st).length = 9 := rfl
  have hml : n + 1 ≤ maxLen := by simp only [maxLen]; omega
  have hone : ∀ u ∈ outCells st, u.oneCell' = true := by simp [outCells, Value.oneCell']
  have hnews := World.news_of_block (cs := (outCells st).toArray) (t := 27) (fr := (0, 0)) (heap_alloc_new (w.alloc o1) (.cells (outCells st).toArray 27))
  rw [hsz1] at hnews
  exact wpList_append_lies _ hgd s x 22 ho base 27 i0 _ 9 96 Tryd.underlying22 hi0 hz0 hz1 hz2 rfl (by omega) v n xs hs (own_alloc (own_alloc hown _) _)
    ⟨w.heap.size + 1, 0, none⟩ 1 1 (outCells st) hx hlen hnews hone
    (by omega) hml (by omega) (by rw [hsz]; omega) (w.heap.size + 2) hsz (fun g cap w' h1 h2 _ _ => h g cap w' h1 h2)
set_option maxHeartbeats 3200000 in
theorem sc_round {w : World} {st : St} {g cap n i base : Nat} {ve vo : Value} {xs : List Value} (hi : i < n) (hn : n ≤ 1000000) (hown : w.ownsRow base 27 9 vo i xs) (hbase : base ≤ w.heap.size)
    (c0 : w.cell? ⟨g, i * 9, none⟩ = some (.int .u64 st.line)) (c1 : w.cell? ⟨g, i * 9 + 1, none⟩ = some (.int .u64 st.col)) (c2 : w.cell? ⟨g, i * 9 + 2, none⟩ = some (.bool st.blank)) (c3 : w.cell? ⟨g, i * 9 + 3, none⟩ = some (.string (tokWord st.tok.toNat)))
    (c4 : w.cell? ⟨g, i * 9 + 4, none⟩ = some (.string st.lit)) (c5 : w.cell? ⟨g, i * 9 + 5, none⟩ = some (.bool st.bad)) (c6 : w.cell? ⟨g, i * 9 + 6, none⟩ = some (.int .i64 (IntKind.i64.wrap st.kind))) (c7 : w.cell? ⟨g, i * 9 + 7, none⟩ = some (.string (opStr st.op))) (c8 : w.cell? ⟨g, i * 9 + 8, none⟩ = some (.int .i64 st.prec))
    (a : Act) (hz : SA ve vo (.slice (some ⟨g, 0, none⟩) n cap) (.int .i64 n) (.int .i64 i) a) (Q : Exit → Act → World → Prop)
    (hQ : ∀ o1 vo' a' w', SA ve vo' (.slice (some ⟨g, 0, none⟩) n cap) (.int .i64 n) (.int .i64 (i + 1 : Nat)) a' → w'.ownsRow base 27 9 vo' (i + 1) (xs ++ outCells st) → ((w.alloc o1).alloc (.cells (outCells st).toArray 27)).grownBy w' vo.ownBlock → Q .normal a' w') : scLoop.wp Tryd.prog Q a w := by
  obtain ⟨x, rfl⟩ := hz.lit
  clear hz
  have hi0 : (0 : Int) ≤ (i : Int) := by omega
  have hi1 : (i : Int) < (n : Int) := by omega
  simp only [scLoop, scBody, bodyOf, Tryd.f15, Option.getD, blkOf, loopOf, cond, Nat.beq]
  go_wp2_with (at_builtin; go_loud (refine sc_app (st := st) hown hbase (by omega) (by rfl) _ _ (by rfl) (by rfl) (by rfl) ?_); intro gg cap' w1 hown1 hgrow)
  exact hQ _ _ _ _ ⟨rfl, rfl, rfl, rfl, rfl, rfl, rfl⟩ hown1 hgrow
theorem sc_out {w : World} {n : Nat} {ve vo vr : Value} (a : Act) (hz : SA ve vo vr (.int .i64 n) (.int .i64 n) a) (Q : Exit → Act → World → Prop)
    (hQ : ∀ a', SA ve vo vr (.int .i64 n) (.int .i64 n) a' → Q (.exit 0) a' w) : scLoop.wp Tryd.prog Q a w := by
  obtain ⟨x, rfl⟩ := hz.lit
  clear hz
  simp only [scLoop, scBody, bodyOf, Tryd.f15, Option.getD, blkOf, loopOf, cond, Nat.beq]
  have hlt : ¬ ((n : Int) < (n : Int)) := by omega
  go_wp2_with fail
  exact ⟨rfl, rfl, rfl, rfl, rfl, rfl, rfl⟩
/-- Old blocks are as they were, behind new ones and an append to a row of the call's own. -/
theorem below_grown {B : Nat} {w0 w w1 : World} {o1 o2 : Obj} {row : Option Nat} (h : Below B w0 w) (hB : B ≤ w.heap.size) (hg : ((w.alloc o1).alloc o2).grownBy w1 row) (hr : ∀ k, row = some k → B ≤ k) : Below B w0 w1 := by
  have h1 := Below.alloc h hB o1
  have h2 := Below.alloc h1 (by simp; omega) o2
  refine h2.trans ⟨hg.os, hg.tape, hg.output, hg.size, fun k hk => hg.block k (by simp; omega) (fun e => ?_)⟩
  have := hr k e.symm; omega
theorem own_row_cell {w : World} {base n g cap : Nat} {e : TypeId} {sz : Nat} {xs : List Value} {j : Nat} {u : Value} (h : w.ownsRow base e sz (.slice (some ⟨g, 0, none⟩) n cap) n xs) (hj : xs[j]? = some u) : w.cell? ⟨g, j, none⟩ = some u := by
  have := h.cells (g := g) rfl j u hj
  have e : (⟨g, 0, none⟩ : Addr).add j = ⟨g, j, none⟩ := by unfold Addr.add; split <;> simp_all
  rw [e] at this; exact this
theorem sc_loop (L : List St) {wS : World} {g cap b0 : Nat} {ve : Value} (hL : L.length ≤ 1000000) (hrow : wS.ownsRow b0 57 9 (.slice (some ⟨g, 0, none⟩) L.length cap) L.length (rowOf L)) (Q : Exit → Act → World → Prop)
    (hQ : ∀ vo a w, SA ve vo (.slice (some ⟨g, 0, none⟩) L.length cap) (.int .i64 L.length) (.int .i64 L.length) a → w.ownsRow wS.heap.size 27 9 vo L.length (flat outCells L) → Below wS.heap.size wS w → Q .normal a w) :
    ∀ (d i : Nat) (vo : Value) (a : Act) (w : World), i + d = L.length → SA ve vo (.slice (some ⟨g, 0, none⟩) L.length cap) (.int .i64 L.length) (.int .i64 i) a → w.ownsRow wS.heap.size 27 9 vo i (flat outCells (L.take i)) → Below wS.heap.size wS w →
      Code.rounds Tryd.prog scLoop (Exit.inBlock 0 Q) (d + 1) a w
  | 0, i, vo, a, w, hi, hz, hown, hB => by
    have hi : i = L.length := by omega
    subst hi
    rw [rounds_succ]
    refine sc_out a hz _ (fun a' z' => ?_)
    show Q .normal a' w
    rw [List.take_length] at hown
    exact hQ vo a' w z' hown hB
  | d + 1, i, vo, a, w, hi, hz, hown, hB => by
    have hlt : i < L.length := by omega
    obtain ⟨s, hs⟩ : ∃ s, L[i]? = some s := ⟨L[i], List.getElem?_eq_getElem hlt⟩
    have cell : ∀ j u, j < 9 → (tokCells s)[j]? = some u → w.cell? ⟨g, i * 9 + j, none⟩ = some u := fun j u hj hu => by
      have h1 : (rowOf L)[i * 9 + j]? = some u := (flat_get (k := 9) (fun _ => rfl) L i j s hs hj).trans hu
      have h2 := own_row_cell hrow h1
      rw [World.cell?_of_block (w := wS) (a := ⟨g, i * 9 + j, none⟩) (hB.block _ (World.block_lt_of_cell? _ _ h2))]
      exact h2
    have hbase : wS.heap.size ≤ w.heap.size := hB.size
    rw [rounds_succ]
    refine sc_round (st := s) hlt hL hown hbase (by have := cell 0 _ (by decide) rfl; exact this) (cell 1 _ (by decide) rfl) (cell 2 _ (by decide) rfl) (cell 3 _ (by decide) rfl) (cell 4 _ (by decide) rfl) (cell 5 _ (by decide) rfl) (cell 6 _ (by decide) rfl) (cell 7 _ (by decide) rfl) (cell 8 _ (by decide) rfl) a hz _ (fun o1 vo' a' w' z' own' grow => ?_)
    show Code.rounds Tryd.prog scLoop (Exit.inBlock 0 Q) (d + 1) a' w'
    refine sc_loop L hL hrow Q hQ d (i + 1) vo' a' w' (by omega) z' ?_ (below_grown hB hbase grow (fun k hk => (own_ety hown hk).1))
    rw [List.take_add_one, hs]
    simp only [Option.toList, flat_append, flat, List.append_nil]
    exact own'
end Sc
end Go.Proofs.YtogkcphobhhbdaaDoor

/- impl.Scan: its second loop. -/
namespace Go.Proofs.YtogkcphobhhbdaaDoor
open Go Go.RowKit Go.Lib
namespace Sc
open Ev
set_option maxRecDepth 100000
/-- Known slots of a frame of 74. -/
structure SB (vt vo vr vn vi : Value) (a : Act) : Prop where
  defers : a.defers = []
  size : a.tmps.size = 74
  s8 : a.tmps[8]? = some vt
  s11 : a.tmps[11]? = some vo
  s53 : a.tmps[53]? = some vr
  s54 : a.tmps[54]? = some vn
  s55 : a.tmps[55]? = some vi
theorem SB.lit {vt vo vr vn vi : Value} {a : Act} (h : SB vt vo vr vn vi a) : ∃ x : Nat → Value, a = { tmps := #[x 0, x 1, x 2, x 3, x 4, x 5, x 6, x 7, vt, x 9, x 10, vo, x 12, x 13, x 14, x 15, x 16, x 17, x 18, x 19, x 20, x 21, x 22, x 23, x 24, x 25, x 26, x 27, x 28, x 29, x 30, x 31, x 32, x 33, x 34, x 35, x 36, x 37, x 38, x 39, x 40, x 41, x 42, x 43, x 44, x 45, x 46, x 47, x 48, x 49, x 50, x 51, x 52, vr, vn, vi, x 56, x 57, x 58, x 59, x 60, x 61, x 62, x 63, x 64, x 65, x 66, x 67, x 68, x 69, x 70, x 71, x 72, x 73], defers := [] } := by
  refine ⟨fun i => a.tmps.getD i undef, ?_⟩
  obtain ⟨t, d⟩ := a
  obtain ⟨h1, h2, k8, k11, k53, k54, k55⟩ := h
  simp only at h1 h2 k8 k11 k53 k54 k55
  subst h1
  have e8 : t.getD 8 undef = vt := by rw [Array.getD_eq_getD_getElem?, k8]; rfl
  have e11 : t.getD 11 undef = vo := by rw [Array.getD_eq_getD_getElem?, k11]; rfl
  have e53 : t.getD 53 undef = vr := by rw [Array.getD_eq_getD_getElem?, k53]; rfl
  have e54 : t.getD 54 undef = vn := by rw [Array.getD_eq_getD_getElem?, k54]; rfl
  have e55 : t.getD 55 undef = vi := by rw [Array.getD_eq_getD_getElem?, k55]; rfl
  have ht := tmpsN 74 t h2
  rw [← e8, ← e11, ← e53, ← e54, ← e55]
  exact congrArg (fun t => ({ tmps := t, defers := [] } : Act)) ht
theorem SB.of {vt vo vr vn vi : Value} (x : Nat → Value) : SB vt vo vr vn vi { tmps := #[x 0, x 1, x 2, x 3, x 4, x 5, x 6, x 7, vt, x 9, x 10, vo, x 12, x 13, x 14, x 15, x 16, x 17, x 18, x 19, x 20, x 21, x 22, x 23, x 24, x 25, x 26, x 27, x 28, x 29, x 30, x 31, x 32, x 33, x 34, x 35, x 36, x 37, x 38, x 39, x 40, x 41, x 42, x 43, x 44, x 45, x 46, x 47, x 48, x 49, x 50, x 51, x 52, vr, vn, vi, x 56, x 57, x 58, x 59, x 60, x 61, x 62, x 63, x 64, x 65, x 66, x 67, x 68, x 69, x 70, x 71, x 72, x 73], defers := [] } := ⟨rfl, rfl, rfl, rfl, rfl, rfl, rfl⟩
noncomputable abbrev snLoop : Code := loopOf (blkOf scBody 2)
def inNote (n : Note) : List Value := [.int .u64 n.line, .int .u64 n.col, .string n.msg]
/-- A note as it is handed on. -/
def outNote (n : Note) : List Value := [.int .i64 (wrap64 n.line), .int .i64 (wrap64 n.col), .string n.msg]
theorem noteCells_flat : ∀ L : List Note, noteCells L = flat inNote L
  | [] => rfl
  | n :: r => by simp [noteCells, flat, inNote, noteCells_flat r]
theorem info_note : (Tryd.prog.info? 61).map (fun i => (i.zero, i.size, i.bytes)) = some (some (.agg #[.int .i64 0, .int .i64 0, .string ⟨#[]⟩]), 3, 32) := by kernel_rfl
theorem sn_app {w : World} {o1 : Obj} {base n : Nat} {v : Value} {xs : List Value} {st : Note} (hown : w.ownsRow base 61 3 v n xs) (hbase : base ≤ w.heap.size) (hn : n ≤ 60000000)
    {ops : Array Oper} {rest : List Oper} {o : Oper} {a : Act} {Q : Exit → Act → World → Prop} (hgd : o.guard = none) (s x : Operand)
    (ho : o.op = .call { callee := .builtin .append, args := #[s, x], argTypes := #[23, 23] }) (hs : a.eval s = v) (hx : a.eval x = .slice (some ⟨w.heap.size + 1, 0, none⟩) 1 1)
    (h : ∀ g cap w', w'.ownsRow base 61 3 (.slice (some ⟨g, 0, none⟩) (n + 1) cap) (n + 1) (xs ++ outNote st) → ((w.alloc o1).alloc (.cells (outNote st).toArray 61)).grownBy w' v.ownBlock → wpList Tryd.prog ops Q rest (a.put o.dst (.slice (some ⟨g, 0, none⟩) (n + 1) cap)) w') :
    wpList Tryd.prog ops Q (o :: rest) a ((w.alloc o1).alloc (.cells (outNote st).toArray 61)) := by
  obtain ⟨i0, hi0, hz0, hz1, hz2⟩ := info_parts info_note
  have hsz : ((w.alloc o1).alloc (.cells (outNote st).toArray 61)).heap.size = w.heap.size + 2 := by simp
  have hsz1 : (w.alloc o1).heap.size = w.heap.size + 1 := by simp
  have hlen : (outNote st).length = 3 := rfl
  have hml : n + 1 ≤ maxLen := by simp only [maxLen]; omega
  have hone : ∀ u ∈ outNote st, u.oneCell' = true := by simp [outNote, Value.oneCell']
  have hnews := World.news_of_block (cs := (outNote st).toArray) (t := 61) (fr := (0, 0)) (heap_alloc_new (w.alloc o1) (.cells (outNote st).toArray 61))
  rw [hsz1] at hnews
  exact wpList_append_lies _ hgd s x 23 ho base 61 i0 _ 3 32 Tryd.underlying23 hi0 hz0 hz1 hz2 rfl (by omega) v n xs hs (own_alloc (own_alloc hown _) _)
    ⟨w.heap.size + 1, 0, none⟩ 1 1 (outNote st) hx hlen hnews hone
    (by omega) hml (by omega) (by rw [hsz]; omega) (w.heap.size + 2) hsz (fun g cap w' h1 h2 _ _ => h g cap w' h1 h2)
set_option maxHeartbeats 3200000 in
theorem sn_round {w : World} {st : Note} {g cap n i base : Nat} {vt vo : Value} {xs : List Value} (hi : i < n) (hn : n ≤ 60000000) (hown : w.ownsRow base 61 3 vo i xs) (hbase : base ≤ w.heap.size)
    (c0 : w.cell? ⟨g, i * 3, none⟩ = some (.int .u64 st.line)) (c1 : w.cell? ⟨g, i * 3 + 1, none⟩ = some (.int .u64 st.col)) (c2 : w.cell? ⟨g, i * 3 + 2, none⟩ = some (.string st.msg))
    (a : Act) (hz : SB vt vo (.slice (some ⟨g, 0, none⟩) n cap) (.int .i64 n) (.int .i64 i) a) (Q : Exit → Act → World → Prop)
    (hQ : ∀ o1 vo' a' w', SB vt vo' (.slice (some ⟨g, 0, none⟩) n cap) (.int .i64 n) (.int .i64 (i + 1 : Nat)) a' → w'.ownsRow base 61 3 vo' (i + 1) (xs ++ outNote st) → ((w.alloc o1).alloc (.cells (outNote st).toArray 61)).grownBy w' vo.ownBlock → Q .normal a' w') : snLoop.wp Tryd.prog Q a w := by
  obtain ⟨x, rfl⟩ := hz.lit
  clear hz
  have hi0 : (0 : Int) ≤ (i : Int) := by omega
  have hi1 : (i : Int) < (n : Int) := by omega
  simp only [snLoop, scBody, bodyOf, Tryd.f15, Option.getD, blkOf, loopOf, cond, Nat.beq]
  go_wp2_with (at_builtin; refine sn_app (st := st) hown hbase (by omega) (by rfl) _ _ (by rfl) (by rfl) (by rfl) ?_; intro gg cap' w1 hown1 hgrow)
  exact hQ _ _ _ _ ⟨rfl, rfl, rfl, rfl, rfl, rfl, rfl⟩ hown1 hgrow
theorem sn_out {w : World} {n : Nat} {vt vo vr : Value} (a : Act) (hz : SB vt vo vr (.int .i64 n) (.int .i64 n) a) (Q : Exit → Act → World → Prop)
    (hQ : ∀ a', SB vt vo vr (.int .i64 n) (.int .i64 n) a' → Q (.exit 2) a' w) : snLoop.wp Tryd.prog Q a w := by
  obtain ⟨x, rfl⟩ := hz.lit
  clear hz
  simp only [snLoop, scBody, bodyOf, Tryd.f15, Option.getD, blkOf, loopOf, cond, Nat.beq]
  have hlt : ¬ ((n : Int) < (n : Int)) := by omega
  go_wp2_with fail
  exact ⟨rfl, rfl, rfl, rfl, rfl, rfl, rfl⟩
theorem sn_loop (L : List Note) {wS : World} {b0 : Nat} {vt vr : Value} (hL : L.length ≤ 60000000) (hrow : wS.ownsRow b0 59 3 vr L.length (noteCells L)) (Q : Exit → Act → World → Prop)
    (hQ : ∀ vo a w, SB vt vo vr (.int .i64 L.length) (.int .i64 L.length) a → w.ownsRow wS.heap.size 61 3 vo L.length (flat outNote L) → Below wS.heap.size wS w → Q .normal a w) :
    ∀ (d i : Nat) (vo : Value) (a : Act) (w : World), i + d = L.length → SB vt vo vr (.int .i64 L.length) (.int .i64 i) a → w.ownsRow wS.heap.size 61 3 vo i (flat outNote (L.take i)) → Below wS.heap.size wS w →
      Code.rounds Tryd.prog snLoop (Exit.inBlock 2 Q) (d + 1) a w
  | 0, i, vo, a, w, hi, hz, hown, hB => by
    have hi : i = L.length := by omega
    subst hi
    rw [rounds_succ]
    refine sn_out a hz _ (fun a' z' => ?_)
    show Q .normal a' w
    rw [List.take_length] at hown
    exact hQ vo a' w z' hown hB
  | d + 1, i, vo, a, w, hi, hz, hown, hB => by
    have hlt : i < L.length := by omega
    obtain ⟨s, hs⟩ : ∃ s, L[i]? = some s := ⟨L[i], List.getElem?_eq_getElem hlt⟩
    obtain ⟨g, cap, hv, _, _⟩ := hrow.form (by omega)
    have hrow2 := hrow
    rw [hv] at hrow2 hz
    have cell : ∀ j u, j < 3 → (inNote s)[j]? = some u → w.cell? ⟨g, i * 3 + j, none⟩ = some u := fun j u hj hu => by
      have h1 : (noteCells L)[i * 3 + j]? = some u := by rw [noteCells_flat]; exact (flat_get (k := 3) (fun _ => rfl) L i j s hs hj).trans hu
      have h2 := own_row_cell hrow2 h1
      rw [World.cell?_of_block (w := wS) (a := ⟨g, i * 3 + j, none⟩) (hB.block _ (World.block_lt_of_cell? _ _ h2))]
      exact h2
    have hbase : wS.heap.size ≤ w.heap.size := hB.size
    rw [rounds_succ]
    refine sn_round (st := s) hlt hL hown hbase (by have := cell 0 _ (by decide) rfl; exact this) (cell 1 _ (by decide) rfl) (cell 2 _ (by decide) rfl) a hz _ (fun o1 vo' a' w' z' own' grow => ?_)
    show Code.rounds Tryd.prog snLoop (Exit.inBlock 2 Q) (d + 1) a' w'
    rw [← hv] at z'
    refine sn_loop L hL hrow Q hQ d (i + 1) vo' a' w' (by omega) z' ?_ (below_grown hB hbase grow (fun k hk => (own_ety hown hk).1))
    rw [List.take_add_one, hs]
    simp only [Option.toList, flat_append, flat, List.append_nil]
    exact own'
end Sc
end Go.Proofs.YtogkcphobhhbdaaDoor

/- impl.Scan told whole. -/
namespace Go.Proofs.YtogkcphobhhbdaaDoor
open Go Go.RowKit Go.Lib
namespace Sc
open Ev
set_option maxRecDepth 100000
noncomputable abbrev sP (n : Nat) : Code := fstC (cutTail n scBody)
theorem sc_body : (Tryd.f15).body = some (.seq (sP 0) (.seq (sP 1) (.seq (sP 2) (.seq (.seq (fstC (sP 3)) (.block 0 (.loop scLoop))) (cutTail 4 scBody))))) := by kernel_rfl
theorem sc_body2 : cutTail 4 scBody = .seq (sP 4) (.seq (.seq (fstC (sP 5)) (.block 2 (.loop snLoop))) (cutTail 6 scBody)) := by kernel_rfl
/-- The world in which the bytes lie. -/
noncomputable def wB (w : World) (src : ByteArray) : World := w.drew.alloc (.cells (bytesRow src (grownCap w src.size 0 5)) 5 ((bytesRow src (grownCap w src.size 0 5)).size, (bytesRow src (grownCap w src.size 0 5)).size + 1))
theorem start_of {w : World} {ea : Addr} {src : ByteArray} (hG : Glob w ea) (hn : src.size ≤ 2048) : Start w (wB w src) w.heap.size (grownCap w src.size 0 5) ea src := by
  have hsz : (wB w src).heap.size = w.heap.size + 1 := by simp [wB]
  refine ⟨hG, hn, ?_, Nat.le_refl _, by rw [hsz]; omega, fun j hj => ?_⟩
  · exact Below.alloc (Below.drew (Below.refl _ _)) (Nat.le_refl _) _
  · have hb : (wB w src).heap[w.heap.size]? = some (.cells (bytesRow src (grownCap w src.size 0 5)) 5 ((bytesRow src (grownCap w src.size 0 5)).size, (bytesRow src (grownCap w src.size 0 5)).size + 1)) := heap_alloc_new w.drew _
    rw [cell_of_block' hb]
    have hj' : j < src.data.size := hj
    rw [bytesRow, Array.getElem?_append_left (by simpa using hj')]
    simp only [Array.getElem?_map, Array.getElem?_eq_getElem hj', Option.map_some]
    show _ = some (Value.int .u8 ((src.data[j]!).toNat : Int))
    rw [getElem!_pos src.data j hj']
theorem bytes_conv (w : World) (src : ByteArray) : (convert 9 45 (.string src)).run Tryd.prog w = .ok (.slice (some ⟨w.heap.size, 0, none⟩) src.size (grownCap w src.size 0 5)) (wB w src) :=
  run_bytes_of_string w 9 45 5 src Tryd.underlying9 Tryd.underlying45 Tryd.underlying5
set_option maxHeartbeats 1600000 in
theorem sc_first {w : World} {ea : Addr} {src : ByteArray} (hG : Glob w ea) (hn : src.size ≤ 2048) (m : Int) (B C : Code) (Q : Exit → Act → World → Prop)
    (hQ : ∀ g cap ve a w', w'.ownsRow ((wB w src).heap.size + 4) 57 9 (.slice (some ⟨g, 0, none⟩) (toks src (IntKind.u64.wrap m)).length cap) (toks src (IntKind.u64.wrap m)).length (rowOf (toks src (IntKind.u64.wrap m))) → w'.ownsRow ((wB w src).heap.size + 4) 59 3 ve (last src (IntKind.u64.wrap m)).notes.length (noteCells (last src (IntKind.u64.wrap m)).notes) → Below w.heap.size w w' →
      SA ve (.slice none 0 0) (.slice (some ⟨g, 0, none⟩) (toks src (IntKind.u64.wrap m)).length cap) (.int .i64 (toks src (IntKind.u64.wrap m)).length) (.int .i64 (0 : Nat)) a → B.wp Tryd.prog (Exit.then (fun a w => C.wp Tryd.prog Q a w) Q) a w') :
    (Code.seq (sP 0) (.seq (sP 1) (.seq (sP 2) (.seq (.seq (fstC (sP 3)) B) C)))).wp Tryd.prog Q { tmps := #[.string src, .int .i64 m] ++ Array.replicate 72 undef, defers := [] } w := by
  have hZ := zzscan (start_of hG hn) (IntKind.u64.wrap m)
  have hc := bytes_conv w src
  have hlen := (toks_good (IntKind.u64.wrap m) hn).ne
  simp only [sP, fstC, scBody, bodyOf, Tryd.f15, Option.getD, cutTail, cutN, Option.map, Array.replicate_succ, Array.replicate_zero, List.push_toArray, List.append_toArray, List.nil_append, List.cons_append]
  go_wp2_with (first | (rw [hc]; go_simp) | (go_at_call 30; refine hZ.mono ?_; rintro en w' ⟨v, ve, rfl, h1, h2, h3⟩; obtain ⟨g, cap, rfl, _, _⟩ := h1.form (List.length_pos_iff.2 hlen)))
  rename_i K hK
  refine Code.wp_mono (fun e a w h => ?_) (hQ g cap ve _ w' h1 h2 h3 ⟨rfl, rfl, rfl, rfl, rfl, rfl, rfl⟩)
  cases e <;> first | exact hK _ _ h | exact h
theorem own_weak {w : World} {b b' n : Nat} {e : TypeId} {sz : Nat} {v : Value} {xs : List Value} (h : w.ownsRow b' e sz v n xs) (hb : b ≤ b') : w.ownsRow b e sz v n xs := by
  obtain ⟨h1, h2⟩ := h
  refine ⟨h1, ?_⟩
  rcases h2 with h2 | ⟨g, cap, cur, hv, hg, r⟩
  · exact .inl h2
  · exact .inr ⟨g, cap, cur, hv, by omega, r⟩
theorem below_weak {b b' : Nat} {w w' : World} (h : Below b' w w') (hb : b ≤ b') : Below b w w' := ⟨h.os, h.tape, h.output, h.size, fun k hk => h.block k (by omega)⟩
theorem ve_len {w : World} {b0 n : Nat} {ve : Value} {xs : List Value} (h : w.ownsRow b0 59 3 ve n xs) : ∃ b cap, ve = .slice b n cap := by
  rcases h.2 with ⟨rfl, rfl⟩ | ⟨g, cap, cur, rfl, _⟩
  · exact ⟨_, _, rfl⟩
  · exact ⟨_, _, rfl⟩
set_option maxHeartbeats 1600000 in
theorem sc_second {w : World} {b0 n : Nat} {ve vo vr vn vi : Value} {xs : List Value} (h : w.ownsRow b0 59 3 ve n xs) (a : Act) (hz : SA ve vo vr vn vi a) (B C : Code) (Q : Exit → Act → World → Prop)
    (hQ : ∀ a, SB vo (.slice none 0 0) ve (.int .i64 n) (.int .i64 (0 : Nat)) a → B.wp Tryd.prog (Exit.then (fun a w => C.wp Tryd.prog Q a w) Q) a w) :
    (Code.seq (sP 4) (.seq (.seq (fstC (sP 5)) B) C)).wp Tryd.prog Q a w := by
  obtain ⟨b, cap, rfl⟩ := ve_len h
  clear h
  obtain ⟨x, rfl⟩ := hz.lit
  clear hz
  simp only [sP, fstC, scBody, bodyOf, Tryd.f15, Option.getD, cutTail, cutN, Option.map]
  go_wp2_with fail
  rename_i K hK
  refine Code.wp_mono (fun e a w h => ?_) (hQ _ ⟨rfl, rfl, rfl, rfl, rfl, rfl, rfl⟩)
  cases e <;> first | exact hK _ _ h | exact h
theorem sc_third {w : World} {vt vo vr vn vi : Value} (a : Act) (hz : SB vt vo vr vn vi a) (Q : Exit → Act → World → Prop)
    (hQ : ∀ a', a'.defers = [] → a'.tmps[4]? = some vt → a'.tmps[5]? = some vo → Q .ret a' w) : (cutTail 6 scBody).wp Tryd.prog Q a w := by
  obtain ⟨x, rfl⟩ := hz.lit
  clear hz
  simp only [scBody, bodyOf, Tryd.f15, Option.getD, cutTail, cutN, Option.map]
  go_wp2_with fail
  all_goals first | exact hQ _ rfl rfl rfl | exact rfl
theorem sc_res {a : Act} {w : World} {v ve : Value} (h4 : a.tmps[4]? = some v) (h5 : a.tmps[5]? = some ve) : (results Tryd.f15 a.tmps).run Tryd.prog w = .ok (.tuple #[v, ve]) w := by
  have e : (Tryd.f15).results = #[.tmp 4, .tmp 5] := by kernel_rfl
  simp [results, e, h4, h5, go_sem]
/-- impl.Scan: the tokens, and what was told. -/
theorem scan_walk {w : World} {ea : Addr} {src : ByteArray} (hG : Glob w ea) (hn : src.size ≤ 2048) (m : Int) :
    Calls Tryd.prog 15 #[.string src, .int .i64 m] w fun en w' => ∃ v ve, en = .returned (.tuple #[v, ve]) ∧
      w'.ownsRow w.heap.size 27 9 v (toks src (IntKind.u64.wrap m)).length (flat outCells (toks src (IntKind.u64.wrap m))) ∧
      w'.ownsRow w.heap.size 61 3 ve (last src (IntKind.u64.wrap m)).notes.length (flat outNote (last src (IntKind.u64.wrap m)).notes) ∧ Below w.heap.size w w' := by
  refine calls_of_wp Tryd.func15 sc_body ?_
  have hnt : (Tryd.f15).ntmps - (#[.string src, .int .i64 m] : Array Value).size = 72 := by kernel_rfl
  rw [hnt]
  refine sc_first hG hn m _ _ _ (fun g cap ve a w1 o1 o2 b1 z1 => ?_)
  have hl1 := toks_len src (IntKind.u64.wrap m) hn
  have hl2 := last_cn (IntKind.u64.wrap m) hn
  refine wp_block (wp_loop_rounds ((toks src (IntKind.u64.wrap m)).length + 1) ?_)
  refine sc_loop (toks src (IntKind.u64.wrap m)) (by omega) o1 _ (fun vo a2 w2 z2 own2 b2 => ?_) _ 0 _ a w1 (Nat.zero_add _) z1 (World.ownsRow_nil _ _ _ _) (Below.refl _ _)
  show (cutTail 4 scBody).wp _ _ a2 w2
  have o2' := own_below b2 o2
  rw [sc_body2]
  refine sc_second o2' a2 z2 _ _ _ (fun a3 z3 => ?_)
  refine wp_block (wp_loop_rounds ((last src (IntKind.u64.wrap m)).notes.length + 1) ?_)
  refine sn_loop (last src (IntKind.u64.wrap m)).notes (by omega) o2' _ (fun vn a4 w4 z4 own4 b4 => ?_) _ 0 _ a3 w2 (Nat.zero_add _) z3 (World.ownsRow_nil _ _ _ _) (Below.refl _ _)
  show (cutTail 6 scBody).wp _ _ a4 w4
  have hs1 := b1.size; have hs2 := b2.size
  refine sc_third a4 z4 _ (fun a5 d0 d4 d5 => ⟨d0, _, sc_res d4 d5, vo, vn, rfl, ?_, ?_, ?_⟩)
  · exact own_weak (own_below b4 own2) hs1
  · exact own_weak own4 (by omega)
  · exact b1.trans ((below_weak b2 hs1).trans (below_weak b4 (by omega)))
end Sc
end Go.Proofs.YtogkcphobhhbdaaDoor

/- spec.Told walked. -/
namespace Go.Proofs.YtogkcphobhhbdaaDoor
open Go Go.RowKit Go.Lib
namespace Sc
open Ev
set_option maxRecDepth 100000
def sEq : ByteArray := ⟨#[61]⟩
def sSemiW : ByteArray := ⟨#[59]⟩
/-- What a token of the program is: its class, its text. -/
def toldF (nm lt op : ByteArray) : Int × ByteArray :=
  if nm.toList = [69, 79, 70] then (0, ⟨#[]⟩)
  else if nm.toList = [110, 97, 109, 101] then (1, lt)
  else if nm.toList = [108, 105, 116, 101, 114, 97, 108] then (2, lt)
  else if nm.toList = [111, 112] then (3, op)
  else if nm.toList = [111, 112, 61] then (3, op ++ sEq)
  else if nm.toList = [111, 112, 111, 112] then (3, op ++ op)
  else if nm.toList = [59] then (if lt.toList = [115, 101, 109, 105, 99, 111, 108, 111, 110] then (4, sSemiW) else (4, ⟨#[]⟩))
  else (3, nm)
end Sc
end Go.Proofs.YtogkcphobhhbdaaDoor

/- FnEnds: a round of its loop. -/
namespace Go.Proofs.YtogkcphobhhbdaaDoor
open Go Go.RowKit Go.Lib
namespace Sc
open Ev
set_option maxRecDepth 100000
/-- Known slots of a frame of 84. -/
structure SE (v5 vr vn vi : Value) (a : Act) : Prop where
  defers : a.defers = []
  size : a.tmps.size = 84
  s5 : a.tmps[5]? = some v5
  s25 : a.tmps[25]? = some vr
  s26 : a.tmps[26]? = some vn
  s27 : a.tmps[27]? = some vi
theorem SE.lit {v5 vr vn vi : Value} {a : Act} (h : SE v5 vr vn vi a) : ∃ x : Nat → Value, a = { tmps := #[x 0, x 1, x 2, x 3, x 4, v5, x 6, x 7, x 8, x 9, x 10, x 11, x 12, x 13, x 14, x 15, x 16, x 17, x 18, x 19, x 20, x 21, x 22, x 23, x 24, vr, vn, vi, x 28, x 29, x 30, x 31, x 32, x 33, x 34, x 35, x 36, x 37, x 38, x 39, x 40, x 41, x 42, x 43, x 44, x 45, x 46, x 47, x 48, x 49, x 50, x 51, x 52, x 53, x 54, x 55, x 56, x 57, x 58, x 59, x 60, x 61, x 62, x 63, x 64, x 65, x 66, x 67, x 68, x 69, x 70, x 71, x 72, x 73, x 74, x 75, x 76, x 77, x 78, x 79, x 80, x 81, x 82, x 83], defers := [] } := by
  refine ⟨fun i => a.tmps.getD i undef, ?_⟩
  obtain ⟨t, d⟩ := a
  obtain ⟨h1, h2, k5, k25, k26, k27⟩ := h
  simp only at h1 h2 k5 k25 k26 k27
  subst h1
  have e5 : t.getD 5 undef = v5 := by rw [Array.getD_eq_getD_getElem?, k5]; rfl
  have e25 : t.getD 25 undef = vr := by rw [Array.getD_eq_getD_getElem?, k25]; rfl
  have e26 : t.getD 26 undef = vn := by rw [Array.getD_eq_getD_getElem?, k26]; rfl
  have e27 : t.getD 27 undef = vi := by rw [Array.getD_eq_getD_getElem?, k27]; rfl
  have ht := tmpsN 84 t h2
  rw [← e5, ← e25, ← e26, ← e27]
  exact congrArg (fun t => ({ tmps := t, defers := [] } : Act)) ht
theorem SE.of {v5 vr vn vi : Value} (x : Nat → Value) : SE v5 vr vn vi { tmps := #[x 0, x 1, x 2, x 3, x 4, v5, x 6, x 7, x 8, x 9, x 10, x 11, x 12, x 13, x 14, x 15, x 16, x 17, x 18, x 19, x 20, x 21, x 22, x 23, x 24, vr, vn, vi, x 28, x 29, x 30, x 31, x 32, x 33, x 34, x 35, x 36, x 37, x 38, x 39, x 40, x 41, x 42, x 43, x 44, x 45, x 46, x 47, x 48, x 49, x 50, x 51, x 52, x 53, x 54, x 55, x 56, x 57, x 58, x 59, x 60, x 61, x 62, x 63, x 64, x 65, x 66, x 67, x 68, x 69, x 70, x 71, x 72, x 73, x 74, x 75, x 76, x 77, x 78, x 79, x 80, x 81, x 82, x 83], defers := [] } := ⟨rfl, rfl, rfl, rfl, rfl, rfl⟩
end Sc
end Go.Proofs.YtogkcphobhhbdaaDoor

/- FnEnds walked: true at every text. -/
namespace Go.Proofs.YtogkcphobhhbdaaDoor
open Go Go.RowKit Go.Lib
namespace Sc
open Ev
set_option maxRecDepth 100000
theorem word_one : (tokWord 1).toList = [69, 79, 70] := by kernel_rfl
end Sc
end Go.Proofs.YtogkcphobhhbdaaDoor

/- FnModes: a round of its loop. -/
namespace Go.Proofs.YtogkcphobhhbdaaDoor
open Go Go.RowKit Go.Lib
namespace Sc
open Ev
set_option maxRecDepth 100000
/-- Known slots of a frame of 54. -/
structure SM (va vb vn vi : Value) (a : Act) : Prop where
  defers : a.defers = []
  size : a.tmps.size = 54
  s5 : a.tmps[5]? = some va
  s7 : a.tmps[7]? = some vb
  s40 : a.tmps[40]? = some vn
  s41 : a.tmps[41]? = some vi
theorem SM.lit {va vb vn vi : Value} {a : Act} (h : SM va vb vn vi a) : ∃ x : Nat → Value, a = { tmps := #[x 0, x 1, x 2, x 3, x 4, va, x 6, vb, x 8, x 9, x 10, x 11, x 12, x 13, x 14, x 15, x 16, x 17, x 18, x 19, x 20, x 21, x 22, x 23, x 24, x 25, x 26, x 27, x 28, x 29, x 30, x 31, x 32, x 33, x 34, x 35, x 36, x 37, x 38, x 39, vn, vi, x 42, x 43, x 44, x 45, x 46, x 47, x 48, x 49, x 50, x 51, x 52, x 53], defers := [] } := by
  refine ⟨fun i => a.tmps.getD i undef, ?_⟩
  obtain ⟨t, d⟩ := a
  obtain ⟨h1, h2, k5, k7, k40, k41⟩ := h
  simp only at h1 h2 k5 k7 k40 k41
  subst h1
  have e5 : t.getD 5 undef = va := by rw [Array.getD_eq_getD_getElem?, k5]; rfl
  have e7 : t.getD 7 undef = vb := by rw [Array.getD_eq_getD_getElem?, k7]; rfl
  have e40 : t.getD 40 undef = vn := by rw [Array.getD_eq_getD_getElem?, k40]; rfl
  have e41 : t.getD 41 undef = vi := by rw [Array.getD_eq_getD_getElem?, k41]; rfl
  have ht := tmpsN 54 t h2
  rw [← e5, ← e7, ← e40, ← e41]
  exact congrArg (fun t => ({ tmps := t, defers := [] } : Act)) ht
theorem SM.of {va vb vn vi : Value} (x : Nat → Value) : SM va vb vn vi { tmps := #[x 0, x 1, x 2, x 3, x 4, va, x 6, vb, x 8, x 9, x 10, x 11, x 12, x 13, x 14, x 15, x 16, x 17, x 18, x 19, x 20, x 21, x 22, x 23, x 24, x 25, x 26, x 27, x 28, x 29, x 30, x 31, x 32, x 33, x 34, x 35, x 36, x 37, x 38, x 39, vn, vi, x 42, x 43, x 44, x 45, x 46, x 47, x 48, x 49, x 50, x 51, x 52, x 53], defers := [] } := ⟨rfl, rfl, rfl, rfl, rfl, rfl⟩
end Sc
end Go.Proofs.YtogkcphobhhbdaaDoor

/- FnModes walked: true at every text. -/
namespace Go.Proofs.YtogkcphobhhbdaaDoor
open Go Go.RowKit Go.Lib
namespace Sc
open Ev
set_option maxRecDepth 100000
theorem glob_move {w w' : World} {ea : Addr} (h : Glob w ea) (hB : Below w.heap.size w w') : Glob w' ea := by
  have mv : ∀ {a : Addr} {v : Value}, w.cell? a = some v → w'.cell? a = some v := fun {a v} hc => by
    rw [World.cell?_of_block (w := w) (a := a) (hB.block _ (World.block_lt_of_cell? _ _ hc))]; exact hc
  have := hB.size; have := h.size
  exact ⟨mv h.eof, ⟨fun c hc => mv (h.utf8.1 c hc), fun i hi => ⟨mv (h.utf8.2 i hi).1, mv (h.utf8.2 i hi).2⟩⟩, Go.Proofs.TabIs_below (by kernel_rfl : Tryd.prog.globalNamed "unicode.properties" = some 4) h.props hB, Go.Proofs.RVar_below h.letter hB, Go.Proofs.RVar_below h.digit hB, fun i hi => mv (h.tix i hi), fun i hi => mv (h.oix i hi), by omega⟩
end Sc
end Go.Proofs.YtogkcphobhhbdaaDoor

/- spec.Alike walked: true of tokens that are those wanted. -/
namespace Go.Proofs.YtogkcphobhhbdaaDoor
open Go Go.RowKit Go.Lib
namespace Sc
open Ev
set_option maxRecDepth 100000
/-- A token that is wanted. -/
structure WTok where
  cls : Int
  text : ByteArray
  kind : Int
  line : Int
  col : Int
/-- A token of the program is the one that is wanted. -/
def Like (s : St) (t : WTok) : Prop := toldF (tokWord s.tok.toNat) s.lit (opStr s.op) = (t.cls, t.text) ∧ (t.cls = 2 → wrap64 s.kind = t.kind ∧ s.bad = false)
/-- Known slots of a frame of 61. -/
structure SK (v0 v1 vr vn vi : Value) (a : Act) : Prop where
  defers : a.defers = []
  size : a.tmps.size = 61
  s0 : a.tmps[0]? = some v0
  s1 : a.tmps[1]? = some v1
  s14 : a.tmps[14]? = some vr
  s15 : a.tmps[15]? = some vn
  s16 : a.tmps[16]? = some vi
theorem SK.lit {v0 v1 vr vn vi : Value} {a : Act} (h : SK v0 v1 vr vn vi a) : ∃ x : Nat → Value, a = { tmps := #[v0, v1, x 2, x 3, x 4, x 5, x 6, x 7, x 8, x 9, x 10, x 11, x 12, x 13, vr, vn, vi, x 17, x 18, x 19, x 20, x 21, x 22, x 23, x 24, x 25, x 26, x 27, x 28, x 29, x 30, x 31, x 32, x 33, x 34, x 35, x 36, x 37, x 38, x 39, x 40, x 41, x 42, x 43, x 44, x 45, x 46, x 47, x 48, x 49, x 50, x 51, x 52, x 53, x 54, x 55, x 56, x 57, x 58, x 59, x 60], defers := [] } := by
  refine ⟨fun i => a.tmps.getD i undef, ?_⟩
  obtain ⟨t, d⟩ := a
  obtain ⟨h1, h2, k0, k1, k14, k15, k16⟩ := h
  simp only at h1 h2 k0 k1 k14 k15 k16
  subst h1
  have e0 : t.getD 0 undef = v0 := by rw [Array.getD_eq_getD_getElem?, k0]; rfl
  have e1 : t.getD 1 undef = v1 := by rw [Array.getD_eq_getD_getElem?, k1]; rfl
  have e14 : t.getD 14 undef = vr := by rw [Array.getD_eq_getD_getElem?, k14]; rfl
  have e15 : t.getD 15 undef = vn := by rw [Array.getD_eq_getD_getElem?, k15]; rfl
  have e16 : t.getD 16 undef = vi := by rw [Array.getD_eq_getD_getElem?, k16]; rfl
  have ht := tmpsN 61 t h2
  rw [← e0, ← e1, ← e14, ← e15, ← e16]
  exact congrArg (fun t => ({ tmps := t, defers := [] } : Act)) ht
theorem SK.of {v0 v1 vr vn vi : Value} (x : Nat → Value) : SK v0 v1 vr vn vi { tmps := #[v0, v1, x 2, x 3, x 4, x 5, x 6, x 7, x 8, x 9, x 10, x 11, x 12, x 13, vr, vn, vi, x 17, x 18, x 19, x 20, x 21, x 22, x 23, x 24, x 25, x 26, x 27, x 28, x 29, x 30, x 31, x 32, x 33, x 34, x 35, x 36, x 37, x 38, x 39, x 40, x 41, x 42, x 43, x 44, x 45, x 46, x 47, x 48, x 49, x 50, x 51, x 52, x 53, x 54, x 55, x 56, x 57, x 58, x 59, x 60], defers := [] } := ⟨rfl, rfl, rfl, rfl, rfl, rfl, rfl⟩
end Sc
end Go.Proofs.YtogkcphobhhbdaaDoor

/- spec.Alike walked whole. -/
namespace Go.Proofs.YtogkcphobhhbdaaDoor
open Go Go.RowKit Go.Lib
namespace Sc
open Ev
set_option maxRecDepth 100000
/-- The tokens of the program are those that are wanted, one by one. -/
def LikeAll (L : List St) (W : List WTok) : Prop := L.length = W.length ∧ ∀ (i : Nat) (s : St) (t : WTok), L[i]? = some s → W[i]? = some t → Like s t
end Sc
end Go.Proofs.YtogkcphobhhbdaaDoor

/- laws.refused and laws.told walked. -/
namespace Go.Proofs.YtogkcphobhhbdaaDoor
open Go Go.RowKit Go.Lib
namespace Sc
open Ev
set_option maxRecDepth 100000
theorem own_slice {w : World} {base n size : Nat} {e : TypeId} {v : Value} {xs : List Value} (h : w.ownsRow base e size v n xs) : ∃ p cap, v = .slice p n cap := by
  rcases h.2 with ⟨h1, h2⟩ | ⟨g, cap, _, h1, _⟩
  · exact ⟨none, 0, by rw [h1, h2]⟩
  · exact ⟨_, cap, h1⟩
/-- impl.Scan without modes, whole. -/
theorem scan_full {w : World} {ea : Addr} {src : ByteArray} (hG : Glob w ea) (hn : src.size ≤ 2048) :
    Calls Tryd.prog 15 #[.string src, .int .i64 0] w fun en w' => ∃ g cap p c2, en = .returned (.tuple #[.slice (some ⟨g, 0, none⟩) (toks src 0).length cap, .slice p (last src 0).notes.length c2]) ∧
      w'.ownsRow w.heap.size 27 9 (.slice (some ⟨g, 0, none⟩) (toks src 0).length cap) (toks src 0).length (flat outCells (toks src 0)) ∧ Below w.heap.size w w' := by
  have := scan_walk hG hn 0
  rw [show IntKind.u64.wrap 0 = 0 from by decide] at this
  refine this.mono ?_
  rintro en w' ⟨v, ve, rfl, h1, h2, h3⟩
  obtain ⟨g, cap, rfl, _, _⟩ := h1.form (List.length_pos_iff.2 (toks_good _ hn).ne)
  obtain ⟨p, c2, rfl⟩ := own_slice h2
  exact ⟨g, cap, p, c2, rfl, h1, h3⟩
theorem one_res {f : Func} {a : Act} {w : World} {v : Value} {k : Nat} (e : f.results = #[.tmp k]) (h4 : a.tmps[k]? = some v) : (results f a.tmps).run Tryd.prog w = .ok v w := by
  simp [results, e, h4, go_sem]
set_option maxHeartbeats 1600000 in
/-- laws.refused: whether anything is told. -/
theorem refused_walk {w : World} {ea : Addr} {src : ByteArray} (hG : Glob w ea) (hn : src.size ≤ 2048) :
    Calls Tryd.prog 20 #[.string src] w fun en w' => en = .returned (.bool (decide (0 < (last src 0).notes.length))) ∧ Below w.heap.size w w' := by
  have hS := scan_full hG hn
  generalize (toks src 0) = L at hS
  generalize (last src 0).notes.length = N at hS ⊢
  go_enter Tryd.func20, Tryd.ntmps20
  go_wp2_with (go_at_call 15; refine hS.mono ?_; rintro en w' ⟨g, cap, p, c2, rfl, h1, h3⟩)
  exact ⟨rfl, _, one_res (k := 2) (by kernel_rfl) rfl, rfl, h3⟩
end Sc
end Go.Proofs.YtogkcphobhhbdaaDoor

/- spec.EndsLine and spec.Ends walked. -/
namespace Go.Proofs.YtogkcphobhhbdaaDoor
open Go Go.RowKit Go.Lib
namespace Sc
open Ev
set_option maxRecDepth 100000
/-- Behind which words a line's end puts a semicolon in. -/
def endsLineF (s : ByteArray) : Bool :=
  if s.toList = [98, 114, 101, 97, 107] then true
  else if s.toList = [99, 111, 110, 116, 105, 110, 117, 101] then true
  else if s.toList = [102, 97, 108, 108, 116, 104, 114, 111, 117, 103, 104] then true
  else if s.toList = [114, 101, 116, 117, 114, 110] then true
  else if s.toList = [43, 43] then true
  else if s.toList = [45, 45] then true
  else if s.toList = [41] then true
  else if s.toList = [93] then true
  else if s.toList = [125] then true
  else false
/-- Behind which tokens a line's end puts a semicolon in. -/
def endsW (t : WTok) : Bool := if t.cls = 1 then true else if t.cls = 2 then true else if t.cls = 3 then endsLineF t.text else false
end Sc
end Go.Proofs.YtogkcphobhhbdaaDoor

/- laws.closed walked whole. -/
namespace Go.Proofs.YtogkcphobhhbdaaDoor
open Go Go.RowKit Go.Lib
namespace Sc
open Ev
set_option maxRecDepth 100000
def semiW : WTok := ⟨4, ⟨#[]⟩, 0, 0, 0⟩
def endW : WTok := ⟨0, ⟨#[]⟩, 0, 0, 0⟩
/-- What closed makes of tokens. -/
def closedF (W : List WTok) (t : WTok) : List WTok := if endsW t = true then W ++ [semiW] ++ [endW] else W ++ [endW]
end Sc
end Go.Proofs.YtogkcphobhhbdaaDoor

/- spec.TextOk walked. -/
namespace Go.Proofs.YtogkcphobhhbdaaDoor
open Go Go.RowKit Go.Lib
namespace Sc
open Ev
set_option maxRecDepth 100000
/-- Known slots of a frame of 23. -/
structure ST (v0 vi : Value) (a : Act) : Prop where
  defers : a.defers = []
  size : a.tmps.size = 23
  s0 : a.tmps[0]? = some v0
  s6 : a.tmps[6]? = some vi
theorem ST.lit {v0 vi : Value} {a : Act} (h : ST v0 vi a) : ∃ x : Nat → Value, a = { tmps := #[v0, x 1, x 2, x 3, x 4, x 5, vi, x 7, x 8, x 9, x 10, x 11, x 12, x 13, x 14, x 15, x 16, x 17, x 18, x 19, x 20, x 21, x 22], defers := [] } := by
  refine ⟨fun i => a.tmps.getD i undef, ?_⟩
  obtain ⟨t, d⟩ := a
  obtain ⟨h1, h2, k0, k6⟩ := h
  simp only at h1 h2 k0 k6
  subst h1
  have e0 : t.getD 0 undef = v0 := by rw [Array.getD_eq_getD_getElem?, k0]; rfl
  have e6 : t.getD 6 undef = vi := by rw [Array.getD_eq_getD_getElem?, k6]; rfl
  have ht := tmpsN 23 t h2
  rw [← e0, ← e6]
  exact congrArg (fun t => ({ tmps := t, defers := [] } : Act)) ht
theorem ST.of {v0 vi : Value} (x : Nat → Value) : ST v0 vi { tmps := #[v0, x 1, x 2, x 3, x 4, x 5, vi, x 7, x 8, x 9, x 10, x 11, x 12, x 13, x 14, x 15, x 16, x 17, x 18, x 19, x 20, x 21, x 22], defers := [] } := ⟨rfl, rfl, rfl, rfl⟩
end Sc
end Go.Proofs.YtogkcphobhhbdaaDoor

/- Plain: a text within a text; texts that TextOk takes are characters that follow one another. -/
namespace Go.Proofs.YtogkcphobhhbdaaDoor
open Go Go.RowKit Go.Lib
namespace Sc
open Ev
set_option maxRecDepth 100000
/-- A text stands in another one from k on. -/
structure Sub (T : ByteArray) (k : Nat) (s : ByteArray) : Prop where
  le : k + s.size ≤ T.size
  get : ∀ j, j < s.size → T.get! (k + j) = s.get! j
end Sc
end Go.Proofs.YtogkcphobhhbdaaDoor

/- Plain: a text of one literal; texts put together. -/
namespace Go.Proofs.YtogkcphobhhbdaaDoor
open Go Go.RowKit Go.Lib
namespace Sc
open Ev
set_option maxRecDepth 100000
theorem app_list (a b : ByteArray) : (a ++ b).data.toList = a.data.toList ++ b.data.toList := by
  rw [ByteArray.data_append, Array.toList_append]
theorem app_size (a b : ByteArray) : (a ++ b).size = a.size + b.size := ByteArray.size_append
theorem get_left (a b : ByteArray) (i : Nat) (h : i < a.size) : (a ++ b).get! i = a.get! i := by
  rw [get_list, get_list, app_list]
  have hl : i < a.data.toList.length := by rw [size_toList]; exact h
  simp only [List.getD_eq_getElem?_getD]
  rw [List.getElem?_append_left hl]
theorem get_right (a b : ByteArray) (i : Nat) : (a ++ b).get! (a.size + i) = b.get! i := by
  rw [get_list, get_list, app_list]
  have hl : a.data.toList.length = a.size := size_toList a
  simp only [List.getD_eq_getElem?_getD]
  rw [List.getElem?_append_right (by omega), hl, Nat.add_sub_cancel_left]
theorem sub_self (a : ByteArray) : Sub a 0 a := ⟨by omega, fun j _ => by rw [Nat.zero_add]⟩
theorem Sub.left {T a : ByteArray} {k : Nat} (h : Sub T k a) (b : ByteArray) : Sub (T ++ b) k a := by
  have hl := h.le
  exact ⟨by rw [app_size]; omega, fun j hj => by rw [get_left _ _ _ (by omega)]; exact h.get j hj⟩
theorem Sub.right {T a : ByteArray} {k : Nat} (h : Sub T k a) (b : ByteArray) : Sub (b ++ T) (b.size + k) a := by
  have hl := h.le
  exact ⟨by rw [app_size]; omega, fun j hj => by rw [Nat.add_assoc, get_right]; exact h.get j hj⟩
theorem Sub.byte {T a : ByteArray} {k : Nat} (h : Sub T k a) {j : Nat} (hj : j < a.size) : T.get! (k + j) = a.get! j := h.get j hj
/-- A byte that is a sign of its own. -/
theorem Sub.chAt {T : ByteArray} {k : Nat} {b : UInt8} (h : Sub T k ⟨#[b]⟩) (h1 : b.toNat < 128) (h2 : b.toNat ≠ 0) : ChAt T k b.toNat 1 := by
  have e : T.get! (k + 0) = b := h.get 0 (by show 0 < 1; decide)
  rw [Nat.add_zero] at e
  have hl := h.le
  have hs : (⟨#[b]⟩ : ByteArray).size = 1 := rfl
  have := chAt_byte (src := T) (p := k) (by omega) (by rw [e]; exact h1) (by rw [e]; exact h2)
  rw [e] at this
  exact this
/-! A text of one literal. -/
/-- The text's only token, but for the semicolon that is put in, and the end. -/
structure One (src : ByteArray) (s : St) : Prop where
  toks : ∃ s2 s3, toks src 0 = [s, s2, s3] ∧ s2.tok = 18 ∧ s2.lit = wEOF ∧ s3.tok = 1
  notes : (last src 0).notes = []
def litW (T : ByteArray) (k : Int) : WTok := ⟨2, T, k, 0, 0⟩
theorem word_lit : (tokWord 3).toList = [108, 105, 116, 101, 114, 97, 108] := by kernel_rfl
theorem word_semi : (tokWord 18).toList = [59] := by kernel_rfl
theorem like_end {s : St} (h : s.tok = 1) : Like s endW := by
  refine ⟨?_, fun h => by cases h⟩
  rw [h]
  show toldF (tokWord 1) _ _ = (0, ⟨#[]⟩)
  unfold toldF
  rw [if_pos word_one]
theorem like_semi {s : St} (h : s.tok = 18) (h2 : s.lit = wEOF) : Like s semiW := by
  refine ⟨?_, fun h => by cases h⟩
  rw [h, h2]
  show toldF (tokWord 18) wEOF (opStr s.op) = (4, ⟨#[]⟩)
  unfold toldF
  have e : wEOF.toList = [69, 79, 70] := by kernel_rfl
  rw [word_semi, e]
  rfl
theorem like_lit {s : St} {k : Int} (h : s.tok = 3) (hk : s.kind = k) (hb : s.bad = false) (h0 : 0 ≤ k) (h9 : k ≤ 9) : Like s (litW s.lit k) := by
  refine ⟨?_, fun _ => ⟨by rw [hk]; show wrap64 k = k; unfold wrap64; omega, hb⟩⟩
  rw [h]
  show toldF (tokWord 3) s.lit (opStr s.op) = (2, s.lit)
  unfold toldF
  rw [word_lit]
  rfl
/-- What closed makes of one token that a semicolon follows. -/
theorem closed_one {t : WTok} (h : endsW t = true) : closedF [t] t = [t, semiW, endW] := by
  unfold closedF
  rw [if_pos h]
  rfl
theorem One.like {src : ByteArray} {s : St} {t : WTok} (h : One src s) (ht : Like s t) (he : endsW t = true) : LikeAll (Sc.toks src 0) (closedF [t] t) := by
  obtain ⟨s2, s3, e, h2, h2', h3⟩ := h.toks
  rw [e, closed_one he]
  refine ⟨rfl, fun i a b ha hb => ?_⟩
  match i, ha, hb with
  | 0, ha, hb => cases ha; cases hb; exact ht
  | 1, ha, hb => cases ha; cases hb; exact like_semi h2 h2'
  | 2, ha, hb => cases ha; cases hb; exact like_end h3
theorem ends_lit (T : ByteArray) (k : Int) : endsW (litW T k) = true := rfl
end Sc
end Go.Proofs.YtogkcphobhhbdaaDoor

/- Bytes appended beside an iterator. -/
namespace Go.Proofs.YtogkcphobhhbdaaDoor
open Go Go.RowKit Go.Lib
namespace Sc
open Ev
set_option maxRecDepth 100000
/-- Old blocks below B are as they were; a string's iterator, too. -/
structure Frm (B : Nat) (w w' : World) : Prop where
  below : Below B w w'
  iter : ∀ (k : Nat) (s : ByteArray) (pos : Nat), w.heap[k]? = some (Obj.stringIter s pos) → w'.heap[k]? = some (Obj.stringIter s pos)
theorem Frm.refl (B : Nat) (w : World) : Frm B w w := ⟨Below.refl _ _, fun _ _ _ h => h⟩
theorem Frm.trans {B : Nat} {a b c : World} (h : Frm B a b) (h' : Frm B b c) : Frm B a c := ⟨h.below.trans h'.below, fun k s pos h0 => h'.iter k s pos (h.iter k s pos h0)⟩
theorem lt_of_some {w : World} {k : Nat} {o : Obj} (h : w.heap[k]? = some o) : k < w.heap.size := by
  rcases Nat.lt_or_ge k w.heap.size with h1 | h1
  · exact h1
  · rw [Array.getElem?_eq_none h1] at h; cases h
theorem fr_alloc {B : Nat} {w : World} (hB : B ≤ w.heap.size) (o : Obj) : Frm B w (w.alloc o) :=
  ⟨Below.alloc (Below.refl _ _) hB o, fun k s pos h => by rw [(Below.alloc (Below.refl w.heap.size w) (Nat.le_refl _) o).block k (lt_of_some h)]; exact h⟩
def bc (l : List Int) : List Value := l.map (fun x => .int .u8 x)
theorem bc_len (l : List Int) : (bc l).length = l.length := by simp [bc]
end Sc
end Go.Proofs.YtogkcphobhhbdaaDoor

/- spec.Quoted walked: the digits of a number. -/
namespace Go.Proofs.YtogkcphobhhbdaaDoor
open Go Go.RowKit Go.Lib
namespace Sc
open Ev
set_option maxRecDepth 100000
/-- Known slots of a frame of 95. -/
structure SQ (v0 v1 v2 vo vr vk vi : Value) (a : Act) : Prop where
  defers : a.defers = []
  size : a.tmps.size = 95
  s0 : a.tmps[0]? = some v0
  s1 : a.tmps[1]? = some v1
  s2 : a.tmps[2]? = some v2
  s7 : a.tmps[7]? = some vo
  s9 : a.tmps[9]? = some vr
  s10 : a.tmps[10]? = some vk
  s14 : a.tmps[14]? = some vi
theorem SQ.lit {v0 v1 v2 vo vr vk vi : Value} {a : Act} (h : SQ v0 v1 v2 vo vr vk vi a) : ∃ x : Nat → Value, a = { tmps := #[v0, v1, v2, x 3, x 4, x 5, x 6, vo, x 8, vr, vk, x 11, x 12, x 13, vi, x 15, x 16, x 17, x 18, x 19, x 20, x 21, x 22, x 23, x 24, x 25, x 26, x 27, x 28, x 29, x 30, x 31, x 32, x 33, x 34, x 35, x 36, x 37, x 38, x 39, x 40, x 41, x 42, x 43, x 44, x 45, x 46, x 47, x 48, x 49, x 50, x 51, x 52, x 53, x 54, x 55, x 56, x 57, x 58, x 59, x 60, x 61, x 62, x 63, x 64, x 65, x 66, x 67, x 68, x 69, x 70, x 71, x 72, x 73, x 74, x 75, x 76, x 77, x 78, x 79, x 80, x 81, x 82, x 83, x 84, x 85, x 86, x 87, x 88, x 89, x 90, x 91, x 92, x 93, x 94], defers := [] } := by
  refine ⟨fun i => a.tmps.getD i undef, ?_⟩
  obtain ⟨t, d⟩ := a
  obtain ⟨h1, h2, k0, k1, k2, k7, k9, k10, k14⟩ := h
  simp only at h1 h2 k0 k1 k2 k7 k9 k10 k14
  subst h1
  have e0 : t.getD 0 undef = v0 := by rw [Array.getD_eq_getD_getElem?, k0]; rfl
  have e1 : t.getD 1 undef = v1 := by rw [Array.getD_eq_getD_getElem?, k1]; rfl
  have e2 : t.getD 2 undef = v2 := by rw [Array.getD_eq_getD_getElem?, k2]; rfl
  have e7 : t.getD 7 undef = vo := by rw [Array.getD_eq_getD_getElem?, k7]; rfl
  have e9 : t.getD 9 undef = vr := by rw [Array.getD_eq_getD_getElem?, k9]; rfl
  have e10 : t.getD 10 undef = vk := by rw [Array.getD_eq_getD_getElem?, k10]; rfl
  have e14 : t.getD 14 undef = vi := by rw [Array.getD_eq_getD_getElem?, k14]; rfl
  have ht := tmpsN 95 t h2
  rw [← e0, ← e1, ← e2, ← e7, ← e9, ← e10, ← e14]
  exact congrArg (fun t => ({ tmps := t, defers := [] } : Act)) ht
theorem SQ.of {v0 v1 v2 vo vr vk vi : Value} (x : Nat → Value) : SQ v0 v1 v2 vo vr vk vi { tmps := #[v0, v1, v2, x 3, x 4, x 5, x 6, vo, x 8, vr, vk, x 11, x 12, x 13, vi, x 15, x 16, x 17, x 18, x 19, x 20, x 21, x 22, x 23, x 24, x 25, x 26, x 27, x 28, x 29, x 30, x 31, x 32, x 33, x 34, x 35, x 36, x 37, x 38, x 39, x 40, x 41, x 42, x 43, x 44, x 45, x 46, x 47, x 48, x 49, x 50, x 51, x 52, x 53, x 54, x 55, x 56, x 57, x 58, x 59, x 60, x 61, x 62, x 63, x 64, x 65, x 66, x 67, x 68, x 69, x 70, x 71, x 72, x 73, x 74, x 75, x 76, x 77, x 78, x 79, x 80, x 81, x 82, x 83, x 84, x 85, x 86, x 87, x 88, x 89, x 90, x 91, x 92, x 93, x 94], defers := [] } := ⟨rfl, rfl, rfl, rfl, rfl, rfl, rfl, rfl, rfl⟩
end Sc
end Go.Proofs.YtogkcphobhhbdaaDoor

/- spec.Quoted walked: a round of its loop. -/
namespace Go.Proofs.YtogkcphobhhbdaaDoor
open Go Go.RowKit Go.Lib
namespace Sc
open Ev
set_option maxRecDepth 100000
/-- Known slots of a frame of 95. -/
structure SQ5 (v0 v1 v2 vo vi : Value) (a : Act) : Prop where
  defers : a.defers = []
  size : a.tmps.size = 95
  s0 : a.tmps[0]? = some v0
  s1 : a.tmps[1]? = some v1
  s2 : a.tmps[2]? = some v2
  s7 : a.tmps[7]? = some vo
  s14 : a.tmps[14]? = some vi
theorem SQ5.lit {v0 v1 v2 vo vi : Value} {a : Act} (h : SQ5 v0 v1 v2 vo vi a) : ∃ x : Nat → Value, a = { tmps := #[v0, v1, v2, x 3, x 4, x 5, x 6, vo, x 8, x 9, x 10, x 11, x 12, x 13, vi, x 15, x 16, x 17, x 18, x 19, x 20, x 21, x 22, x 23, x 24, x 25, x 26, x 27, x 28, x 29, x 30, x 31, x 32, x 33, x 34, x 35, x 36, x 37, x 38, x 39, x 40, x 41, x 42, x 43, x 44, x 45, x 46, x 47, x 48, x 49, x 50, x 51, x 52, x 53, x 54, x 55, x 56, x 57, x 58, x 59, x 60, x 61, x 62, x 63, x 64, x 65, x 66, x 67, x 68, x 69, x 70, x 71, x 72, x 73, x 74, x 75, x 76, x 77, x 78, x 79, x 80, x 81, x 82, x 83, x 84, x 85, x 86, x 87, x 88, x 89, x 90, x 91, x 92, x 93, x 94], defers := [] } := by
  refine ⟨fun i => a.tmps.getD i undef, ?_⟩
  obtain ⟨t, d⟩ := a
  obtain ⟨h1, h2, k0, k1, k2, k7, k14⟩ := h
  simp only at h1 h2 k0 k1 k2 k7 k14
  subst h1
  have e0 : t.getD 0 undef = v0 := by rw [Array.getD_eq_getD_getElem?, k0]; rfl
  have e1 : t.getD 1 undef = v1 := by rw [Array.getD_eq_getD_getElem?, k1]; rfl
  have e2 : t.getD 2 undef = v2 := by rw [Array.getD_eq_getD_getElem?, k2]; rfl
  have e7 : t.getD 7 undef = vo := by rw [Array.getD_eq_getD_getElem?, k7]; rfl
  have e14 : t.getD 14 undef = vi := by rw [Array.getD_eq_getD_getElem?, k14]; rfl
  have ht := tmpsN 95 t h2
  rw [← e0, ← e1, ← e2, ← e7, ← e14]
  exact congrArg (fun t => ({ tmps := t, defers := [] } : Act)) ht
theorem SQ5.of {v0 v1 v2 vo vi : Value} (x : Nat → Value) : SQ5 v0 v1 v2 vo vi { tmps := #[v0, v1, v2, x 3, x 4, x 5, x 6, vo, x 8, x 9, x 10, x 11, x 12, x 13, vi, x 15, x 16, x 17, x 18, x 19, x 20, x 21, x 22, x 23, x 24, x 25, x 26, x 27, x 28, x 29, x 30, x 31, x 32, x 33, x 34, x 35, x 36, x 37, x 38, x 39, x 40, x 41, x 42, x 43, x 44, x 45, x 46, x 47, x 48, x 49, x 50, x 51, x 52, x 53, x 54, x 55, x 56, x 57, x 58, x 59, x 60, x 61, x 62, x 63, x 64, x 65, x 66, x 67, x 68, x 69, x 70, x 71, x 72, x 73, x 74, x 75, x 76, x 77, x 78, x 79, x 80, x 81, x 82, x 83, x 84, x 85, x 86, x 87, x 88, x 89, x 90, x 91, x 92, x 93, x 94], defers := [] } := ⟨rfl, rfl, rfl, rfl, rfl, rfl, rfl⟩
end Sc
end Go.Proofs.YtogkcphobhhbdaaDoor

/- spec.Quoted, its contract. -/
namespace Go.Proofs.YtogkcphobhhbdaaDoor
open Go Go.RowKit Go.Lib
namespace Sc
open Ev
set_option maxRecDepth 100000
theorem own_byte (w : World) (q : Int) : (w.alloc (.cells (bc [q]).toArray 5)).ownsRow w.heap.size 5 1 (.slice (some ⟨w.heap.size, 0, none⟩) 1 1) 1 (bc [q]) :=
  ⟨rfl, .inr ⟨w.heap.size, 1, (bc [q]).toArray, rfl, Nat.le_refl _, heap_alloc_new w _, Nat.le_refl _, by decide, rfl, by simp [bc]⟩⟩
theorem conv_own {w : World} {B n : Nat} {v : Value} {l : List Int} (h : w.ownsRow B 5 1 v n (bc l)) (hl : 0 < n) : Sem.run Tryd.prog (convert 45 9 v) w = .ok (.string (strOfNums l)) w := by
  obtain ⟨g, cap, rfl, _, _⟩ := h.form hl
  have hlen : l.length = n := by have := h.1; rw [bc_len] at this; omega
  refine run_convert_bytes_arg w 45 5 Tryd.underlying45 Tryd.underlying5 g 0 n cap l hlen (fun i hi => ?_) 9 Tryd.underlying9
  have hj : (bc l)[i]? = some (.int .u8 (l.getD i 0)) := by
    simp only [bc, List.getElem?_map]
    rw [List.getElem?_eq_getElem (by omega)]
    simp [List.getD_eq_getElem?_getD, List.getElem?_eq_getElem (show i < l.length by omega)]
  rw [Nat.zero_add]
  exact own_row_cell h hj
end Sc
end Go.Proofs.YtogkcphobhhbdaaDoor

/- Plain: escapes. -/
namespace Go.Proofs.YtogkcphobhhbdaaDoor
open Go Go.RowKit Go.Lib
namespace Sc
open Ev
set_option maxRecDepth 100000
theorem lower_big {c : Int} (h0 : 128 ≤ c) (h1 : c ≤ 1114111) : 128 ≤ lowerF c := by
  obtain ⟨n, rfl⟩ := Int.eq_ofNat_of_zero_le (show 0 ≤ c by omega)
  have hn : n < 2 ^ 31 := by omega
  have := (bits_nat .i32 31 (by decide) (fun n h0 h1 => wraps_i32 n h0 h1) 32 n (by decide) hn).2
  have e : lowerF (n : Int) = ((32 ||| n : Nat) : Int) := this
  rw [e]
  have : n ≤ 32 ||| n := Nat.right_le_or
  omega
end Sc
end Go.Proofs.YtogkcphobhhbdaaDoor

/- Plain: escapes, whole. -/
namespace Go.Proofs.YtogkcphobhhbdaaDoor
open Go Go.RowKit Go.Lib
namespace Sc
open Ev
set_option maxRecDepth 100000
def noPoint (v : Int) : Prop := v > 1114111 ∨ (55296 ≤ v ∧ v < 57344)
instance (v : Int) : Decidable (noPoint v) := by unfold noPoint; infer_instance
theorem error_len (m : ByteArray) (st : St) : (error m st).notes.length = st.notes.length + 1 := by
  show (st.notes ++ [_]).length = _
  simp
end Sc
end Go.Proofs.YtogkcphobhhbdaaDoor

/- Plain: texts that are one string, one rune, or begin one that is none. -/
namespace Go.Proofs.YtogkcphobhhbdaaDoor
open Go Go.RowKit Go.Lib
namespace Sc
open Ev
set_option maxRecDepth 100000
/-- Something is told of the text. -/
theorem told_some {src : ByteArray} (hs : src.size ≤ 2048) (h : 0 < (nextF src (stI 0)).1.notes.length) : 0 < (last src 0).notes.length := Nat.lt_of_lt_of_le h (last_len hs)
end Sc
end Go.Proofs.YtogkcphobhhbdaaDoor

/- Plain: a valid character's bytes, put together again and read again. -/
namespace Go.Proofs.YtogkcphobhhbdaaDoor
open Go Go.RowKit Go.Lib
namespace Sc
open Ev
set_option maxRecDepth 100000
/-- Bytes stand in a text from k on. -/
structure Byt (T : ByteArray) (k : Nat) (l : List Int) : Prop where
  le : k + l.length ≤ T.size
  get : ∀ (j : Nat) (x : Int), l[j]? = some x → ((T.get! (k + j)).toNat : Int) = x
theorem Byt.left {T : ByteArray} {k : Nat} {a b : List Int} (h : Byt T k (a ++ b)) : Byt T k a := by
  have := h.le
  rw [List.length_append] at this
  refine ⟨by omega, fun j x hj => h.get j x ?_⟩
  have hlt : j < a.length := (List.getElem?_eq_some_iff.1 hj).1
  rw [List.getElem?_append_left hlt]; exact hj
theorem Byt.right {T : ByteArray} {k : Nat} {a b : List Int} (h : Byt T k (a ++ b)) : Byt T (k + a.length) b := by
  have := h.le
  rw [List.length_append] at this
  refine ⟨by omega, fun j x hj => ?_⟩
  have := h.get (a.length + j) x (by rw [List.getElem?_append_right (by omega), Nat.add_sub_cancel_left]; exact hj)
  rw [Nat.add_assoc]; exact this
theorem Byt.chAt {T : ByteArray} {k : Nat} {x : Int} {l : List Int} (h : Byt T k (x :: l)) (h0 : 0 < x) (h1 : x < 128) : ChAt T k x 1 := by
  have e := h.get 0 x rfl
  rw [Nat.add_zero] at e
  have hl := h.le
  rw [List.length_cons] at hl
  have := chAt_byte (src := T) (p := k) (by omega) (by omega) (by omega)
  rw [e] at this
  exact this
theorem Byt.tail {T : ByteArray} {k : Nat} {x : Int} {l : List Int} (h : Byt T k (x :: l)) : Byt T (k + 1) l := by
  have : Byt T k ([x] ++ l) := h
  exact this.right
end Sc
end Go.Proofs.YtogkcphobhhbdaaDoor

/- FnString walked: true at every text. -/
namespace Go.Proofs.YtogkcphobhhbdaaDoor
open Go Go.RowKit Go.Lib
namespace Sc
open Ev
set_option maxRecDepth 100000
theorem below_up {a b c : World} (h : Below a.heap.size a b) (h' : Below b.heap.size b c) : Below a.heap.size a c := h.trans (below_weak h' h.size)
end Sc
end Go.Proofs.YtogkcphobhhbdaaDoor

/- FnRune walked: the count of characters. -/
namespace Go.Proofs.YtogkcphobhhbdaaDoor
open Go Go.RowKit Go.Lib
namespace Sc
open Ev
set_option maxRecDepth 100000
/-- Known slots of a frame of 32. -/
structure SRu (v0 vt vn vi : Value) (a : Act) : Prop where
  defers : a.defers = []
  size : a.tmps.size = 32
  s0 : a.tmps[0]? = some v0
  s3 : a.tmps[3]? = some vt
  s4 : a.tmps[4]? = some vn
  s17 : a.tmps[17]? = some vi
theorem SRu.lit {v0 vt vn vi : Value} {a : Act} (h : SRu v0 vt vn vi a) : ∃ x : Nat → Value, a = { tmps := #[v0, x 1, x 2, vt, vn, x 5, x 6, x 7, x 8, x 9, x 10, x 11, x 12, x 13, x 14, x 15, x 16, vi, x 18, x 19, x 20, x 21, x 22, x 23, x 24, x 25, x 26, x 27, x 28, x 29, x 30, x 31], defers := [] } := by
  refine ⟨fun i => a.tmps.getD i undef, ?_⟩
  obtain ⟨t, d⟩ := a
  obtain ⟨h1, h2, k0, k3, k4, k17⟩ := h
  simp only at h1 h2 k0 k3 k4 k17
  subst h1
  have e0 : t.getD 0 undef = v0 := by rw [Array.getD_eq_getD_getElem?, k0]; rfl
  have e3 : t.getD 3 undef = vt := by rw [Array.getD_eq_getD_getElem?, k3]; rfl
  have e4 : t.getD 4 undef = vn := by rw [Array.getD_eq_getD_getElem?, k4]; rfl
  have e17 : t.getD 17 undef = vi := by rw [Array.getD_eq_getD_getElem?, k17]; rfl
  have ht := tmpsN 32 t h2
  rw [← e0, ← e3, ← e4, ← e17]
  exact congrArg (fun t => ({ tmps := t, defers := [] } : Act)) ht
theorem SRu.of {v0 vt vn vi : Value} (x : Nat → Value) : SRu v0 vt vn vi { tmps := #[v0, x 1, x 2, vt, vn, x 5, x 6, x 7, x 8, x 9, x 10, x 11, x 12, x 13, x 14, x 15, x 16, vi, x 18, x 19, x 20, x 21, x 22, x 23, x 24, x 25, x 26, x 27, x 28, x 29, x 30, x 31], defers := [] } := ⟨rfl, rfl, rfl, rfl, rfl, rfl⟩
end Sc
end Go.Proofs.YtogkcphobhhbdaaDoor

/- FnRune walked: true at every text. -/
namespace Go.Proofs.YtogkcphobhhbdaaDoor
open Go Go.RowKit Go.Lib
namespace Sc
open Ev
set_option maxRecDepth 100000
theorem refused_yes {w : World} {ea : Addr} {src : ByteArray} (hG : Glob w ea) (hn : src.size ≤ 2048) (h : 0 < (last src 0).notes.length) :
    Calls Tryd.prog 20 #[.string src] w fun en w' => en = .returned (.bool true) ∧ Below w.heap.size w w' := by
  have := refused_walk hG hn
  rw [decide_eq_true h] at this
  exact this
end Sc
end Go.Proofs.YtogkcphobhhbdaaDoor

/- Plain: what does not end is told. -/
namespace Go.Proofs.YtogkcphobhhbdaaDoor
open Go Go.RowKit Go.Lib
namespace Sc
open Ev
set_option maxRecDepth 100000
/-- The first place of a text in another one. -/
def idxN (s x : ByteArray) : Nat → Nat → Int
  | 0, _ => -1
  | n + 1, i => if i + x.size ≤ s.size then (if (s.extract i (i + x.size)).toList = x.toList then (i : Int) else idxN s x n (i + 1)) else -1
def idxF (s x : ByteArray) : Int := idxN s x (s.size + 1) 0
end Sc
end Go.Proofs.YtogkcphobhhbdaaDoor

/- spec.Index walked. -/
namespace Go.Proofs.YtogkcphobhhbdaaDoor
open Go Go.RowKit Go.Lib
namespace Sc
open Ev
set_option maxRecDepth 100000
/-- Known slots of a frame of 25. -/
structure SIx (v0 v1 vi : Value) (a : Act) : Prop where
  defers : a.defers = []
  size : a.tmps.size = 25
  s0 : a.tmps[0]? = some v0
  s1 : a.tmps[1]? = some v1
  s5 : a.tmps[5]? = some vi
theorem SIx.lit {v0 v1 vi : Value} {a : Act} (h : SIx v0 v1 vi a) : ∃ x : Nat → Value, a = { tmps := #[v0, v1, x 2, x 3, x 4, vi, x 6, x 7, x 8, x 9, x 10, x 11, x 12, x 13, x 14, x 15, x 16, x 17, x 18, x 19, x 20, x 21, x 22, x 23, x 24], defers := [] } := by
  refine ⟨fun i => a.tmps.getD i undef, ?_⟩
  obtain ⟨t, d⟩ := a
  obtain ⟨h1, h2, k0, k1, k5⟩ := h
  simp only at h1 h2 k0 k1 k5
  subst h1
  have e0 : t.getD 0 undef = v0 := by rw [Array.getD_eq_getD_getElem?, k0]; rfl
  have e1 : t.getD 1 undef = v1 := by rw [Array.getD_eq_getD_getElem?, k1]; rfl
  have e5 : t.getD 5 undef = vi := by rw [Array.getD_eq_getD_getElem?, k5]; rfl
  have ht := tmpsN 25 t h2
  rw [← e0, ← e1, ← e5]
  exact congrArg (fun t => ({ tmps := t, defers := [] } : Act)) ht
theorem SIx.of {v0 v1 vi : Value} (x : Nat → Value) : SIx v0 v1 vi { tmps := #[v0, v1, x 2, x 3, x 4, vi, x 6, x 7, x 8, x 9, x 10, x 11, x 12, x 13, x 14, x 15, x 16, x 17, x 18, x 19, x 20, x 21, x 22, x 23, x 24], defers := [] } := ⟨rfl, rfl, rfl, rfl, rfl⟩
end Sc
end Go.Proofs.YtogkcphobhhbdaaDoor

/- Plain: names. -/
namespace Go.Proofs.YtogkcphobhhbdaaDoor
open Go Go.RowKit Go.Lib
namespace Sc
open Ev
set_option maxRecDepth 100000
/-- A letter, or a low line. -/
def letR (r : Int) : Bool := isLetterU r || r == 95
/-- That, or a digit. -/
def idR (r : Int) : Bool := letR r || isDigitU r
theorem id_end : idR (-1) = false := by decide +kernel
/-- Behind what a name ends: the end, or a sign of one byte that is no part of a name. -/
def IdEnd (src : ByteArray) (q : Nat) : Prop := Cln src q ∧ ∀ r w, ChAt src q r w → idR r = false ∧ r < 128
theorem Std.no {src : ByteArray} {q : Nat} {st : St} (h : Std src q st) (he : IdEnd src q) : idR st.ch = false ∧ st.ch < 128 := by
  rcases h.ch with h1 | ⟨_, h1, _⟩
  · exact he.2 _ _ h1
  · rw [h1]; exact ⟨id_end, by decide⟩
theorem toList_inj {a b : ByteArray} (h : a.toList = b.toList) : a = b := by
  rw [ByteArray.toList_eq, ByteArray.toList_eq] at h
  apply ByteArray.ext
  exact Array.toList_inj.1 h
end Sc
end Go.Proofs.YtogkcphobhhbdaaDoor

/- Plain: the switch at each sign (printed by wip/tools/genSg.py). -/
namespace Go.Proofs.YtogkcphobhhbdaaDoor
open Go Go.RowKit Go.Lib
namespace Sc
open Ev
set_option maxRecDepth 100000
def sgL : List ByteArray := [⟨#[60, 60, 61]⟩, ⟨#[62, 62, 61]⟩, ⟨#[38, 94, 61]⟩, ⟨#[46, 46, 46]⟩, ⟨#[60, 60]⟩, ⟨#[62, 62]⟩, ⟨#[38, 94]⟩, ⟨#[43, 61]⟩, ⟨#[45, 61]⟩, ⟨#[42, 61]⟩, ⟨#[47, 61]⟩, ⟨#[37, 61]⟩, ⟨#[38, 61]⟩, ⟨#[124, 61]⟩, ⟨#[94, 61]⟩, ⟨#[38, 38]⟩, ⟨#[124, 124]⟩, ⟨#[60, 45]⟩, ⟨#[43, 43]⟩, ⟨#[45, 45]⟩, ⟨#[61, 61]⟩, ⟨#[33, 61]⟩, ⟨#[60, 61]⟩, ⟨#[62, 61]⟩, ⟨#[58, 61]⟩, ⟨#[43]⟩, ⟨#[45]⟩, ⟨#[42]⟩, ⟨#[47]⟩, ⟨#[37]⟩, ⟨#[38]⟩, ⟨#[124]⟩, ⟨#[94]⟩, ⟨#[60]⟩, ⟨#[62]⟩, ⟨#[61]⟩, ⟨#[33]⟩, ⟨#[126]⟩, ⟨#[40]⟩, ⟨#[41]⟩, ⟨#[91]⟩, ⟨#[93]⟩, ⟨#[123]⟩, ⟨#[125]⟩, ⟨#[44]⟩, ⟨#[46]⟩, ⟨#[58]⟩]
def inSg (w : ByteArray) : Bool := sgL.any fun x => x.toList == w.toList
/-- No longer sign stands there. -/
def SgMax (src : ByteArray) (q : Nat) (w : ByteArray) : Prop := ∀ w', inSg w' = true → Sub src q w' → w'.size ≤ w.size
theorem std_on {src : ByteArray} {q : Nat} {n : St} (h : Std src q n) {r : Int} (hc : ChAt src q r 1) (hq : Cln src (q + 1)) : n.ch = r ∧ Std src (q + 1) (nextch src n) ∧ Sil src n (nextch src n) := by
  obtain ⟨e1, e2⟩ := h.of hc
  have h1 := std_next h (by rw [e2]; exact hq)
  have h2 := sil_next h (by rw [e2]; exact hq)
  rw [e2] at h1
  exact ⟨e1, h1.1, h2⟩
theorem SgMax.no {src : ByteArray} {q : Nat} {w : ByteArray} (h : SgMax src q w) (c : UInt8) (hin : inSg (w ++ ⟨#[c]⟩) = true) : ¬ Sub src q (w ++ ⟨#[c]⟩) := fun hs => by
  have := h _ hin hs
  rw [app_size] at this
  have hs1 : (⟨#[c]⟩ : ByteArray).size = 1 := rfl
  omega
end Sc
end Go.Proofs.YtogkcphobhhbdaaDoor

/- Plain: digits that follow one another. -/
namespace Go.Proofs.YtogkcphobhhbdaaDoor
open Go Go.RowKit Go.Lib
namespace Sc
open Ev
set_option maxRecDepth 100000
/-- A pass has come to the character at q; the column is known. -/
theorem pass_off {src : ByteArray} {nl : Bool} {p q : Nat} {cs : List Int} {st : St} (hsz : src.size ≤ 2048) (hg : Go src p st) (hp : p ≤ src.size) (h : Cl src p cs q) (hb : ∀ x ∈ cs, cBlank nl x = true) (hq : Cln src q) (hs : ∀ r w, ChAt src q r w → cBlank nl r = false) :
    ∃ n, Here src q st n ∧ Off src n ∧ passT src nl st = hdT src (fun s => Fin.done s []) (swT src nl) n := by
  obtain ⟨g1, g2⟩ := blanks_cl (hg.same (b := stop st) rfl rfl rfl rfl) hp h hb hq hs
  have k := g2.keep
  refine ⟨nxSt (decide (u64 (1 + (skip src (cBlank nl) (stop st)).line0) > u64 (1 + st.line0)) || u64 (1 + st.col0) == 1) (skip src (cBlank nl) (stop st)), ⟨g1.same rfl rfl rfl rfl, ?_, g2.notes, ?_, ?_⟩, nxSt_off g1.pos hsz, rfl⟩
  · show some _ = some q
    rw [g1.cut]
  · show (skip src (cBlank nl) (stop st)).nlsemi = _
    rw [k]; rfl
  · show (skip src (cBlank nl) (stop st)).mode = _
    rw [k]; rfl
def hasDg (l : List Int) : Bool := l.any fun x => x != 95
def hasSp (l : List Int) : Bool := l.any fun x => x == 95
def bitsOf (a b : Bool) : Int := (if a = true then 1 else 0) + (if b = true then 2 else 0)
theorem or_one (a b : Bool) : orI (bitsOf a b) 1 = bitsOf true b := by cases a <;> cases b <;> kernel_rfl
theorem or_two (a b : Bool) : orI (bitsOf a b) 2 = bitsOf a true := by cases a <;> cases b <;> kernel_rfl
theorem or_bits (a b c d : Bool) : orI (bitsOf a b) (bitsOf c d) = bitsOf (a || c) (b || d) := by cases a <;> cases b <;> cases c <;> cases d <;> kernel_rfl
theorem and_one (a b : Bool) : andI (bitsOf a b) 1 = bitsOf a false := by cases a <;> cases b <;> kernel_rfl
theorem and_two (a b : Bool) : andI (bitsOf a b) 2 = bitsOf false b := by cases a <;> cases b <;> kernel_rfl
theorem Off.nx {src : ByteArray} {p w : Nat} {r : Int} {st : St} (h : Off src st) (hst : Std src p st) (hc : ChAt src p r w) (hr : r ≠ 10) : Off src (nextch src st) := (h.next (by rw [(hst.of hc).1]; exact hr)).1
/-- What the reader is at: a number's inside ends there. -/
structure At1 (src : ByteArray) (p : Nat) (st : St) : Prop where
  std : Std src p st
  off : Off src st
theorem At1.next {src : ByteArray} {p : Nat} {r : Int} {st : St} (h : At1 src p st) (hc : ChAt src p r 1) (hr : r ≠ 10) (hq : Cln src (p + 1)) : st.ch = r ∧ At1 src (p + 1) (nextch src st) ∧ Sil src st (nextch src st) := by
  obtain ⟨e, h1, h2⟩ := std_on h.std hc hq
  exact ⟨e, ⟨h1, h.off.nx h.std hc hr⟩, h2⟩
/-- Digits to a base up to ten, and low lines. -/
def decU (x : Int) : Bool := isDecimalF x || x == 95
def hexU (x : Int) : Bool := isHexF x || x == 95
theorem decU_in {x : Int} (h : decU x = true) : (48 ≤ x ∧ x ≤ 57) ∨ x = 95 := by
  unfold decU at h
  simp only [Bool.or_eq_true, beq_iff_eq] at h
  rcases h with h | h
  · exact .inl (isDec_ge h)
  · exact .inr h
theorem hex_tab : ((List.range 128).all fun n => (isHexF (n : Nat) == (decide (48 ≤ n ∧ n ≤ 57) || decide (97 ≤ n ∧ n ≤ 102) || decide (65 ≤ n ∧ n ≤ 70))) && (isLetterF (n : Nat) == (decide (97 ≤ n ∧ n ≤ 122) || decide (65 ≤ n ∧ n ≤ 90) || decide (n = 95)))) = true := by kernel_rfl
theorem isHex_big {x : Int} (h0 : 128 ≤ x) (h1 : x ≤ 1114111) : isHexF x = false := by
  have := lower_big h0 h1
  unfold isHexF
  simp
  omega
theorem isHex_in {x : Int} (h0 : 0 ≤ x) (h1 : x ≤ 1114111) : isHexF x = true ↔ ((48 ≤ x ∧ x ≤ 57) ∨ (97 ≤ x ∧ x ≤ 102) ∨ (65 ≤ x ∧ x ≤ 70)) := by
  by_cases h : x < 128
  · have := List.all_eq_true.1 hex_tab x.toNat (List.mem_range.2 (by omega))
    rw [show ((x.toNat : Nat) : Int) = x by omega] at this
    simp only [Bool.and_eq_true, beq_iff_eq] at this
    rw [this.1]
    simp
    omega
  · rw [isHex_big (by omega) h1]
    simp
    omega
theorem hexU_in {x : Int} (h0 : 0 ≤ x) (h1 : x ≤ 1114111) (h : hexU x = true) : (48 ≤ x ∧ x ≤ 57) ∨ (97 ≤ x ∧ x ≤ 102) ∨ (65 ≤ x ∧ x ≤ 70) ∨ x = 95 := by
  unfold hexU at h
  simp only [Bool.or_eq_true, beq_iff_eq] at h
  rcases h with h | h
  · have := (isHex_in h0 h1).1 h; omega
  · omega
/-- What ends digits. -/
def EndOf (c : Int → Bool) (src : ByteArray) (q : Nat) : Prop := Cln src q ∧ ∀ r w, ChAt src q r w → c r = false
theorem EndOf.no {c : Int → Bool} (hc : c (-1) = false) {src : ByteArray} {q : Nat} {st : St} (h : EndOf c src q) (hst : Std src q st) : c st.ch = false := by
  rcases hst.ch with h1 | ⟨_, h1, _⟩
  · exact h.2 _ _ h1
  · rw [h1]; exact hc
theorem digAF_eq (src : ByteArray) (mx : Int) (st : St) (d inv : Int) : digAF src mx (st, d, inv) =
    if decU st.ch = true then (if st.ch = 95 then digAF src mx (nextch src st, orI d 2, inv) else digAF src mx (nextch src st, orI d 1, if st.ch ≥ mx ∧ inv < 0 then colIn st else inv)) else (st, d, inv) := by
  unfold digAF
  rw [runF_step (I := fun _ => True) (fun a _ => sat_mono (digA_on src mx a) (fun s hs => by
    cases s with
    | go a' => exact ⟨trivial, hs.2⟩
    | out q => trivial)) trivial (.out (st0, 0, 0))]
  unfold digA digA1 decU
  by_cases h1 : st.ch = 95
  · have e : isDecimalF 95 = false := by decide
    simp [Tree.get, stepF, h1, e]
  · cases h2 : isDecimalF st.ch
    · simp [Tree.get, stepF, h1, h2]
    · by_cases h3 : st.ch ≥ mx
      · by_cases h4 : inv < 0
        · simp [Tree.get, stepF, h1, h2, h3, h4]
        · simp [Tree.get, stepF, h1, h2, h3, h4]
      · simp [Tree.get, stepF, h1, h2, h3]
theorem digNF_eq (src : ByteArray) (st : St) (d : Int) : digNF src (st, d) =
    if decU st.ch = true then (if st.ch = 95 then digNF src (nextch src st, orI d 2) else digNF src (nextch src st, orI d 1)) else (st, d) := by
  unfold digNF
  rw [runF_step (I := fun _ => True) (fun a _ => sat_mono (digN_on src a) (fun s hs => by
    cases s with
    | go a' => exact ⟨trivial, hs.2⟩
    | out q => trivial)) trivial (.out (st0, 0))]
  unfold digN digN1 decU
  by_cases h1 : st.ch = 95
  · have e : isDecimalF 95 = false := by decide
    simp [Tree.get, stepF, h1, e]
  · cases h2 : isDecimalF st.ch
    · simp [Tree.get, stepF, h1, h2]
    · have h3 := isDec_ge h2
      have h4 : ¬ 58 ≤ st.ch := by omega
      simp [Tree.get, stepF, h1, h2, h4]
theorem digBF_eq (src : ByteArray) (st : St) (d : Int) : digBF src (st, d) =
    if hexU st.ch = true then (if st.ch = 95 then digBF src (nextch src st, orI d 2) else digBF src (nextch src st, orI d 1)) else (st, d) := by
  unfold digBF
  rw [runF_step (I := fun _ => True) (fun a _ => sat_mono (digB_on src a) (fun s hs => by
    cases s with
    | go a' => exact ⟨trivial, hs.2⟩
    | out q => trivial)) trivial (.out (st0, 0))]
  unfold digB hexU
  by_cases h1 : st.ch = 95
  · have e : isHexF 95 = false := by decide
    simp [Tree.get, stepF, h1, e]
  · cases h2 : isHexF st.ch
    · simp [Tree.get, stepF, h1, h2]
    · simp [Tree.get, stepF, h1, h2]
/-- A digit that is none of the base. -/
def badDg (mx : Int) (l : List Int) : Bool := l.any fun x => x != 95 && decide (x ≥ mx)
theorem digA_cl {src : ByteArray} {mx : Int} {p q : Nat} {cs : List Int} (h : Cl src p cs q) : ∀ {st : St} (a b : Bool) (inv : Int), (∀ x ∈ cs, decU x = true) → EndOf decU src q → At1 src p st →
    ∃ st' inv', digAF src mx (st, bitsOf a b, inv) = (st', bitsOf (a || hasDg cs) (b || hasSp cs), inv') ∧ At1 src q st' ∧ Sil src st st' ∧ (if inv < 0 then (if badDg mx cs = true then 0 ≤ inv' else inv' = inv) else inv' = inv) := by
  induction h with
  | @nil p =>
    intro st a b inv _ he hst
    rw [digAF_eq, if_neg (by rw [he.no (by decide) hst.std]; decide)]
    refine ⟨st, inv, by simp [hasDg, hasSp], hst, Sil.refl _ _, ?_⟩
    split <;> simp [badDg]
  | @cons p w q r cs h1 h2 ih =>
    intro st a b inv ha he hst
    have hr := decU_in (ha r (by simp))
    have hw := h1.w
    obtain ⟨_, rfl⟩ := h1.byte (by omega)
    obtain ⟨e, g1, g2⟩ := hst.next h1 (by omega) (h2.cln he.1)
    rw [digAF_eq, if_pos (by rw [e]; exact ha r (by simp))]
    by_cases h95 : r = 95
    · rw [if_pos (by rw [e]; exact h95), or_two]
      obtain ⟨st', inv', k1, k2, k3, k4⟩ := ih a true inv (fun x hx => ha x (by simp [hx])) he g1
      refine ⟨st', inv', ?_, k2, g2.trans k3, ?_⟩
      · rw [k1]; simp [hasDg, hasSp, h95]
      · simpa [badDg, h95] using k4
    · rw [if_neg (by rw [e]; exact h95), or_one]
      obtain ⟨st', inv', k1, k2, k3, k4⟩ := ih true b (if st.ch ≥ mx ∧ inv < 0 then colIn st else inv) (fun x hx => ha x (by simp [hx])) he g1
      have h95' : (r != 95) = true := by simpa using h95
      have h95'' : (r == 95) = false := by simpa using h95
      refine ⟨st', inv', ?_, k2, g2.trans k3, ?_⟩
      · rw [k1]; simp [hasDg, hasSp, h95', h95'']
      · have hco := hst.off.colIn
        rw [e] at k4
        by_cases hi : inv < 0
        · rw [if_pos hi]
          by_cases hm : r ≥ mx
          · have hneg : ¬ colIn st < 0 := by omega
            rw [if_pos (show r ≥ mx ∧ inv < 0 from ⟨hm, hi⟩), if_neg hneg] at k4
            rw [if_pos (by simp [badDg, h95', hm])]
            omega
          · rw [if_neg (show ¬ (r ≥ mx ∧ inv < 0) from fun h => hm h.1), if_pos hi] at k4
            have : badDg mx (r :: cs) = badDg mx cs := by simp [badDg, hm]
            rw [this]; exact k4
        · rw [if_neg hi]
          rw [if_neg (show ¬ (r ≥ mx ∧ inv < 0) from fun h => hi h.2), if_neg hi] at k4
          exact k4
theorem digN_cl {src : ByteArray} {p q : Nat} {cs : List Int} (h : Cl src p cs q) : ∀ {st : St} (a b : Bool), (∀ x ∈ cs, decU x = true) → EndOf decU src q → At1 src p st →
    ∃ st', digNF src (st, bitsOf a b) = (st', bitsOf (a || hasDg cs) (b || hasSp cs)) ∧ At1 src q st' ∧ Sil src st st' := by
  induction h with
  | @nil p =>
    intro st a b _ he hst
    rw [digNF_eq, if_neg (by rw [he.no (by decide) hst.std]; decide)]
    exact ⟨st, by simp [hasDg, hasSp], hst, Sil.refl _ _⟩
  | @cons p w q r cs h1 h2 ih =>
    intro st a b ha he hst
    have hr := decU_in (ha r (by simp))
    obtain ⟨_, rfl⟩ := h1.byte (by omega)
    obtain ⟨e, g1, g2⟩ := hst.next h1 (by omega) (h2.cln he.1)
    rw [digNF_eq, if_pos (by rw [e]; exact ha r (by simp))]
    by_cases h95 : r = 95
    · rw [if_pos (by rw [e]; exact h95), or_two]
      obtain ⟨st', k1, k2, k3⟩ := ih a true (fun x hx => ha x (by simp [hx])) he g1
      exact ⟨st', by rw [k1]; simp [hasDg, hasSp, h95], k2, g2.trans k3⟩
    · rw [if_neg (by rw [e]; exact h95), or_one]
      obtain ⟨st', k1, k2, k3⟩ := ih true b (fun x hx => ha x (by simp [hx])) he g1
      exact ⟨st', by rw [k1]; simp [hasDg, hasSp, bne, beq_eq_false_iff_ne.2 h95], k2, g2.trans k3⟩
theorem digB_cl {src : ByteArray} {p q : Nat} {cs : List Int} (h : Cl src p cs q) : ∀ {st : St} (a b : Bool), (∀ x ∈ cs, hexU x = true) → EndOf hexU src q → At1 src p st →
    ∃ st', digBF src (st, bitsOf a b) = (st', bitsOf (a || hasDg cs) (b || hasSp cs)) ∧ At1 src q st' ∧ Sil src st st' := by
  induction h with
  | @nil p =>
    intro st a b _ he hst
    rw [digBF_eq, if_neg (by rw [he.no (by decide) hst.std]; decide)]
    exact ⟨st, by simp [hasDg, hasSp], hst, Sil.refl _ _⟩
  | @cons p w q r cs h1 h2 ih =>
    intro st a b ha he hst
    have hw := h1.w
    have hr := hexU_in (by omega) (by omega) (ha r (by simp))
    obtain ⟨_, rfl⟩ := h1.byte (by omega)
    obtain ⟨e, g1, g2⟩ := hst.next h1 (by omega) (h2.cln he.1)
    rw [digBF_eq, if_pos (by rw [e]; exact ha r (by simp))]
    by_cases h95 : r = 95
    · rw [if_pos (by rw [e]; exact h95), or_two]
      obtain ⟨st', k1, k2, k3⟩ := ih a true (fun x hx => ha x (by simp [hx])) he g1
      exact ⟨st', by rw [k1]; simp [hasDg, hasSp, h95], k2, g2.trans k3⟩
    · rw [if_neg (by rw [e]; exact h95), or_one]
      obtain ⟨st', k1, k2, k3⟩ := ih true b (fun x hx => ha x (by simp [hx])) he g1
      exact ⟨st', by rw [k1]; simp [hasDg, hasSp, bne, beq_eq_false_iff_ne.2 h95], k2, g2.trans k3⟩
/-- The characters that digits to a base may be. -/
def digU (b : Int) : Int → Bool := if b ≤ 10 then decU else hexU
theorem digits_cl {src : ByteArray} {b : Int} (hb : baseOk b) {p q : Nat} {cs : List Int} (h : Cl src p cs q) {st : St} (inv : Int) (ha : ∀ x ∈ cs, digU b x = true) (he : EndOf (digU b) src q) (hst : At1 src p st) :
    ∃ st' inv', digitsF src b st inv = (st', bitsOf (hasDg cs) (hasSp cs), inv') ∧ At1 src q st' ∧ Sil src st st' ∧ (if inv < 0 then (if b ≤ 10 ∧ badDg (48 + b) cs = true then 0 ≤ inv' else inv' = inv) else inv' = inv) := by
  unfold digitsF
  by_cases hle : b ≤ 10
  · have e : digU b = decU := by unfold digU; rw [if_pos hle]
    rw [e] at ha he
    have hm : IntKind.i32.wrap (IntKind.i64.wrap (48 + b)) = 48 + b := by rcases hb with rfl | rfl | rfl | rfl <;> decide
    obtain ⟨st', inv', k1, k2, k3, k4⟩ := digA_cl (mx := 48 + b) h false false inv ha he hst
    rw [if_pos hle, hm]
    refine ⟨st', inv', ?_, k2, k3, ?_⟩
    · have : bitsOf false false = 0 := rfl
      rw [this] at k1
      rw [k1]; simp
    · simpa [hle] using k4
  · have e : digU b = hexU := by unfold digU; rw [if_neg hle]
    rw [e] at ha he
    obtain ⟨st', k1, k2, k3⟩ := digB_cl h false false ha he hst
    have : bitsOf false false = 0 := rfl
    rw [this] at k1
    rw [if_neg hle, k1]
    refine ⟨st', inv, by simp, k2, k3, ?_⟩
    split <;> simp [hle]
end Sc
end Go.Proofs.YtogkcphobhhbdaaDoor

/- Plain: numbers, piece by piece. -/
namespace Go.Proofs.YtogkcphobhhbdaaDoor
open Go Go.RowKit Go.Lib
namespace Sc
open Ev
set_option maxRecDepth 100000
theorem Cl.split {src : ByteArray} {bs : List Int} {q : Nat} : ∀ {us : List Int} {p : Nat}, Cl src p (us ++ bs) q → ∃ m, Cl src p us m ∧ Cl src m bs q
  | [], p, h => ⟨p, .nil, h⟩
  | a :: us, p, h => by
    cases h with
    | cons h1 h2 =>
      obtain ⟨m, g1, g2⟩ := Cl.split h2
      exact ⟨m, .cons h1 g1, g2⟩
theorem numTail_get {src : ByteArray} {n : St} {s : NumS} (h : NumI src n s) : (numTail src True Tree.leaf s).get numD =
    (p6T ((p5T src ((p45T src ((p4T src True ((p3T ((p2T src s).get numD)).get numD)).get numD)).get numD)).get numD)).get numD ∧
    NumI src n ((p45T src ((p4T src True ((p3T ((p2T src s).get numD)).get numD)).get numD)).get numD) := by
  have h2 := p2T_sat h
  have i2 := get_of_sat (d := numD) h2
  have h3 := p3T_sat i2
  have i3 := get_of_sat (d := numD) h3
  have h4 := p4T_sat (B := True) trivial i3
  have i4 := get_of_sat (d := numD) h4
  have h5 := p45T_sat i4
  have i5 := get_of_sat (d := numD) h5
  have h6 := p5T_sat i5
  have i6 := get_of_sat (d := numD) h6
  have h7 := p6T_sat i6
  refine ⟨?_, i5⟩
  unfold numTail
  rw [get_bind h2 _ _ numD, get_bind h3 _ _ numD, get_bind h4 _ _ numD, get_bind h5 _ _ numD, get_bind h6 _ _ numD, get_bind h7 _ _ numD]
  rfl
/-- On the way through a number: at a place; nothing told as long as it is good. -/
structure Np (src : ByteArray) (n : St) (q : Nat) (s : NumS) : Prop where
  at1 : At1 src q s.st
  good : s.ok = true → s.st.notes = n.notes
  bad : s.ok = false → n.notes.length < s.st.notes.length
theorem At1.err {src : ByteArray} {q : Nat} {st : St} (h : At1 src q st) (m : ByteArray) : At1 src q (error m st) := ⟨h.std.same rfl rfl rfl rfl, (h.off.error m).1⟩
theorem err_more (m : ByteArray) (st : St) : st.notes.length < (error m st).notes.length := by rw [error_len]; omega
theorem Np.on {src : ByteArray} {n x : St} {q q' : Nat} {s s' : NumS} (h : Np src n q s) (hx : At1 src q' x) (hs : Sil src s.st x) (e1 : s'.st = x) (e2 : s'.ok = s.ok) : Np src n q' s' :=
  ⟨by rw [e1]; exact hx, fun h1 => by rw [e1, hs.notes]; exact h.good (by rw [← e2]; exact h1), fun h1 => by rw [e1, hs.notes]; exact h.bad (by rw [← e2]; exact h1)⟩
theorem Np.err {src : ByteArray} {n : St} {q : Nat} {s s' : NumS} (h : Np src n q s) (m : ByteArray) (e1 : s'.st = error m s.st) (e2 : s'.ok = false) : Np src n q s' := by
  have hm := err_more m s.st
  refine ⟨by rw [e1]; exact h.at1.err m, fun h1 => (by rw [e2] at h1; cases h1), fun _ => ?_⟩
  rw [e1]
  cases hk : s.ok with
  | true => have := h.good hk; rw [this] at hm; exact hm
  | false => have := h.bad hk; omega
/-- What a number on the way has come to, but for its state. -/
structure Nf (ok : Bool) (kind base pre : Int) (a b : Bool) (s : NumS) : Prop where
  ok : s.ok = ok
  kind : s.kind = kind
  base : s.base = base
  pre : s.pre = pre
  dig : s.dig = bitsOf a b
theorem bits_ne (a b : Bool) : (bitsOf a false == 0) = !a ∧ (bitsOf false b != 0) = b := by cases a <;> cases b <;> decide
/-! The digits behind a point. -/
theorem p2_cl {src : ByteArray} {n : St} {q q' : Nat} {s : NumS} {base pre : Int} {ok a b : Bool} {ds : List Int} (hb : baseOk base) (h : Np src n q s) (hf : Nf ok 0 base pre a b s) (hc : Cl src q ds q') (hd : ∀ x ∈ ds, digU base x = true) (hq : s.seen = true → EndOf (digU base) src q') (hs : s.seen = false → ds = []) :
    Np src n q' ((p2T src s).get numD) ∧ Nf ok (if s.seen = true then 1 else 0) base pre (a || hasDg ds) (b || hasSp ds) ((p2T src s).get numD) ∧ (s.seen = false → ((p2T src s).get numD).inv = s.inv) := by
  obtain ⟨f1, f2, f3, f4, f5⟩ := hf
  cases hsn : s.seen with
  | false =>
    obtain rfl := hs hsn
    cases hc
    have e : (p2T src s).get numD = s := by simp [p2T, Tree.get, hsn]
    rw [e]
    exact ⟨h, ⟨f1, by simp [f2], f3, f4, by simp [hasDg, hasSp, f5]⟩, fun _ => rfl⟩
  | true =>
    obtain ⟨st', inv', k1, k2, k3, k4⟩ := digits_cl hb hc s.inv hd (hq hsn) h.at1
    have e : (p2T src s).get numD = { s with st := st', kind := 1, dig := orI s.dig (bitsOf (hasDg ds) (hasSp ds)), inv := inv' } := by simp [p2T, Tree.get, hsn, f3, k1]
    rw [e]
    exact ⟨h.on k2 k3 rfl rfl, ⟨f1, by simp, f3, f4, by rw [f5, or_bits]⟩, fun h => by cases h⟩
theorem p3_cl {src : ByteArray} {n : St} {q : Nat} {s : NumS} {kind base pre : Int} {ok a b : Bool} (h : Np src n q s) (hf : Nf ok kind base pre a b s) :
    Np src n q ((p3T s).get numD) ∧ Nf (ok && a) kind base pre a b ((p3T s).get numD) ∧ ((p3T s).get numD).inv = s.inv := by
  obtain ⟨f1, f2, f3, f4, f5⟩ := hf
  have e0 : (andI s.dig 1 == 0) = !a := by rw [f5, and_one]; exact (bits_ne a b).1
  cases a with
  | true =>
    have e : (p3T s).get numD = s := by simp [p3T, Tree.get, e0]
    rw [e]
    exact ⟨h, ⟨by simp [f1], f2, f3, f4, f5⟩, rfl⟩
  | false =>
    cases hk : s.ok with
    | false =>
      have e : (p3T s).get numD = s := by simp [p3T, Tree.get, e0, hk]
      rw [e]
      exact ⟨h, ⟨by simp [hk], f2, f3, f4, f5⟩, rfl⟩
    | true =>
      have e : (p3T s).get numD = { s with st := error msgNoDig s.st, ok := false } := by simp [p3T, Tree.get, e0, hk]
      rw [e]
      exact ⟨h.err msgNoDig rfl rfl, ⟨by simp, f2, f3, f4, f5⟩, rfl⟩
/-! The exponent. -/
theorem expErr_cl {src : ByteArray} {n : St} {q : Nat} {s : NumS} {kind base pre : Int} {ok a b : Bool} (e : Int) (h : Np src n q s) (hf : Nf true kind base pre a b s) :
    Np src n q (expErr (s, e)) ∧ Nf (!(decide (e = 101 ∧ pre ≠ 0 ∧ pre ≠ 48)) && !(decide (e = 112 ∧ pre ≠ 120))) kind base pre a b (expErr (s, e)) ∧ (expErr (s, e)).st.ch = s.st.ch ∧ (expErr (s, e)).inv = s.inv := by
  obtain ⟨f1, f2, f3, rfl, f5⟩ := hf
  by_cases h1 : e = 101 ∧ s.pre ≠ 0 ∧ s.pre ≠ 48
  · have eT : expErr (s, e) = { s with st := error msgDec s.st, ok := false } := if_pos h1
    rw [eT]
    exact ⟨h.err msgDec rfl rfl, ⟨by simp [h1], f2, f3, rfl, f5⟩, rfl, rfl⟩
  · by_cases h2 : e = 112 ∧ s.pre ≠ 120
    · have eT : expErr (s, e) = { s with st := error msgHex s.st, ok := false } := (if_neg h1).trans (if_pos h2)
      rw [eT]
      exact ⟨h.err msgHex rfl rfl, ⟨by simp [h2], f2, f3, rfl, f5⟩, rfl, rfl⟩
    · have eT : expErr (s, e) = s := (if_neg h1).trans (if_neg h2)
      rw [eT]
      exact ⟨h, ⟨by rw [f1]; simp [h1, h2], f2, f3, rfl, f5⟩, rfl, rfl⟩
theorem expDig_cl {src : ByteArray} {n x : St} {q q0 q' : Nat} {s : NumS} {kind base pre : Int} {ok a b : Bool} {ds : List Int} (h : Np src n q0 s) (hf : Nf ok kind base pre a b s) (hx : At1 src q x) (hs : Sil src s.st x) (hc : Cl src q ds q') (hd : ∀ x ∈ ds, decU x = true) (hq : EndOf decU src q') :
    Np src n q' ((expDigT src s x).get numD) ∧ Nf (ok && hasDg ds) 1 base pre (hasDg ds) (b || hasSp ds) ((expDigT src s x).get numD) ∧ ((expDigT src s x).get numD).inv = s.inv := by
  obtain ⟨f1, f2, f3, f4, f5⟩ := hf
  obtain ⟨st', k1, k2, k3⟩ := digN_cl hc false false hd hq hx
  have : bitsOf false false = 0 := rfl
  rw [this] at k1
  simp only [Bool.false_or] at k1
  have e1 : orI (digNF src (x, 0)).2 (andI s.dig 2) = bitsOf (hasDg ds) (b || hasSp ds) := by rw [k1, f5, and_two, or_bits, Bool.or_false, Bool.or_comm]
  have e0 : (andI (orI (digNF src (x, 0)).2 (andI s.dig 2)) 1 == 0) = !(hasDg ds) := by rw [e1, and_one]; exact (bits_ne _ b).1
  have hx' : At1 src q' (digNF src (x, 0)).1 := by rw [k1]; exact k2
  have hs' : Sil src s.st (digNF src (x, 0)).1 := by rw [k1]; exact hs.trans k3
  have key : Np src n q' { s with st := (digNF src (x, 0)).1, kind := 1, dig := orI (digNF src (x, 0)).2 (andI s.dig 2) } := h.on hx' hs' rfl rfl
  cases hg : hasDg ds with
  | true =>
    rw [hg] at e0
    have eT : (expDigT src s x).get numD = { s with st := (digNF src (x, 0)).1, kind := 1, dig := orI (digNF src (x, 0)).2 (andI s.dig 2) } := by simp [expDigT, Tree.get, e0]
    rw [eT]
    exact ⟨key, ⟨by simp [f1], rfl, f3, f4, by rw [← hg]; exact e1⟩, rfl⟩
  | false =>
    rw [hg] at e0
    cases hk : s.ok with
    | false =>
      have eT : (expDigT src s x).get numD = { s with st := (digNF src (x, 0)).1, kind := 1, dig := orI (digNF src (x, 0)).2 (andI s.dig 2) } := by simp [expDigT, Tree.get, e0, hk]
      rw [eT]
      exact ⟨key, ⟨by simp [hk], rfl, f3, f4, by rw [← hg]; exact e1⟩, rfl⟩
    | true =>
      have eT : (expDigT src s x).get numD = { s with st := error msgExp (digNF src (x, 0)).1, ok := false, kind := 1, dig := orI (digNF src (x, 0)).2 (andI s.dig 2) } := by simp [expDigT, Tree.get, e0, hk]
      rw [eT]
      exact ⟨key.err msgExp rfl rfl, ⟨by simp, rfl, f3, f4, by rw [← hg]; exact e1⟩, rfl⟩
/-- An exponent behind its letter: a sign or none, digits. -/
theorem expSign_cl {src : ByteArray} {n : St} {q q' : Nat} {s : NumS} {kind base pre : Int} {ok a b : Bool} {e : Int} {sg ds : List Int} (h : Np src n q s) (hf : Nf ok kind base pre a b s) (he : ChAt src q e 1) (he10 : e ≠ 10) (hsg : sg = [] ∨ sg = [43] ∨ sg = [45])
    (hc : Cl src (q + 1) (sg ++ ds) q') (hd : ∀ x ∈ ds, decU x = true) (hq : EndOf decU src q') (hns : sg = [] → ds = [] → ∀ r w, ChAt src q' r w → r ≠ 43 ∧ r ≠ 45) :
    Np src n q' ((expSignT src s).get numD) ∧ Nf (ok && hasDg ds) 1 base pre (hasDg ds) (b || hasSp ds) ((expSignT src s).get numD) ∧ ((expSignT src s).get numD).inv = s.inv := by
  obtain ⟨e1, h1, s1⟩ := h.at1.next he he10 (hc.cln hq.1)
  have sgn : ∀ c : Int, c = 43 ∨ c = 45 → Cl src (q + 1) (c :: ds) q' → Np src n q' ((expDigT src s (nextch src (nextch src s.st))).get numD) ∧ Nf (ok && hasDg ds) 1 base pre (hasDg ds) (b || hasSp ds) ((expDigT src s (nextch src (nextch src s.st))).get numD) ∧ ((expDigT src s (nextch src (nextch src s.st))).get numD).inv = s.inv ∧ (nextch src s.st).ch = c := fun c hcc hc => by
    cases hc with
    | cons k1 k2 =>
      obtain ⟨_, rfl⟩ := k1.byte (by omega)
      obtain ⟨e2, h2, s2⟩ := h1.next k1 (by omega) (k2.cln hq.1)
      obtain ⟨g1, g2, g3⟩ := expDig_cl h hf h2 (s1.trans s2) k2 hd hq
      exact ⟨g1, g2, g3, e2⟩
  unfold expSignT
  simp only [Tree.get]
  rcases hsg with rfl | rfl | rfl
  · have hno : (nextch src s.st).ch ≠ 43 ∧ (nextch src s.st).ch ≠ 45 := by
      cases ds with
      | nil =>
        cases hc
        rcases h1.std.ch with k | ⟨_, k, _⟩
        · exact hns rfl rfl _ _ k
        · omega
      | cons d ds =>
        cases hc with
        | cons k1 k2 =>
          have := decU_in (hd d (by simp))
          have := (h1.std.of k1).1
          omega
    have n1 : ((nextch src s.st).ch == 43) = false := by simpa using hno.1
    have n2 : ((nextch src s.st).ch == 45) = false := by simpa using hno.2
    simp only [n1, n2, Bool.false_eq_true, if_false]
    exact expDig_cl h hf h1 s1 hc hd hq
  · obtain ⟨g1, g2, g3, g4⟩ := sgn 43 (.inl rfl) hc
    have n1 : ((nextch src s.st).ch == 43) = true := by simpa using g4
    simp only [n1, if_true]
    exact ⟨g1, g2, g3⟩
  · obtain ⟨g1, g2, g3, g4⟩ := sgn 45 (.inr rfl) hc
    have n1 : ((nextch src s.st).ch == 43) = false := by rw [g4]; rfl
    have n2 : ((nextch src s.st).ch == 45) = true := by simpa using g4
    simp only [n1, n2, Bool.false_eq_true, if_false, if_true]
    exact ⟨g1, g2, g3⟩
/-- An exponent: its letter, its sign, its digits. -/
abbrev NumE := Option (Int × List Int × List Int)
def exChars : NumE → List Int
  | none => []
  | some (e, sg, ds) => e :: (sg ++ ds)
def exOk (pre : Int) (pt : Bool) : NumE → Bool
  | none => !(decide (pre = 120) && pt)
  | some (e, _, ds) => !(decide (lowerF e = 101 ∧ pre ≠ 0 ∧ pre ≠ 48)) && !(decide (lowerF e = 112 ∧ pre ≠ 120)) && hasDg ds
def exSp : NumE → Bool
  | none => false
  | some (_, _, ds) => hasSp ds
def ExWf : NumE → Prop
  | none => True
  | some (e, sg, ds) => (e = 101 ∨ e = 69 ∨ e = 112 ∨ e = 80) ∧ (sg = [] ∨ sg = [43] ∨ sg = [45]) ∧ ∀ x ∈ ds, decU x = true
/-- What ends a number. -/
structure NumEnd (src : ByteArray) (q : Nat) (ex : NumE) (im : Bool) : Prop where
  cl : Cln src q
  dec : ∀ r w, ChAt src q r w → decU r = false ∧ hexU r = false ∧ lowerF r ≠ 101 ∧ lowerF r ≠ 112 ∧ r ≠ 105 ∧ r ≠ 46 ∧ lowerF r ≠ 120 ∧ lowerF r ≠ 111 ∧ lowerF r ≠ 98
  sgn : ∀ e, ex = some (e, [], []) → im = false → ∀ r w, ChAt src q r w → r ≠ 43 ∧ r ≠ 45
theorem noExp_cl {src : ByteArray} {n : St} {q : Nat} {s : NumS} {base pre : Int} {ok a b pt : Bool} (h : Np src n q s) (hf : Nf ok (if pt = true then 1 else 0) base pre a b s) :
    Np src n q ((noExpT s).get numD) ∧ Nf (ok && !(decide (pre = 120) && pt)) (if pt = true then 1 else 0) base pre a b ((noExpT s).get numD) ∧ ((noExpT s).get numD).inv = s.inv := by
  obtain ⟨f1, f2, f3, rfl, f5⟩ := hf
  have same : (noExpT s).get numD = s → (ok && !(decide (s.pre = 120) && pt)) = ok → Np src n q ((noExpT s).get numD) ∧ Nf (ok && !(decide (s.pre = 120) && pt)) (if pt = true then 1 else 0) base s.pre a b ((noExpT s).get numD) ∧ ((noExpT s).get numD).inv = s.inv := fun e1 e2 => by
    rw [e1, e2]
    exact ⟨h, ⟨f1, f2, f3, rfl, f5⟩, rfl⟩
  by_cases hp : s.pre = 120
  · cases pt with
    | true =>
      have f2' : s.kind = 1 := f2
      cases hk : s.ok with
      | true =>
        have eT : (noExpT s).get numD = { s with st := error msgMant s.st, ok := false } := by simp [noExpT, Tree.get, hp, f2', hk]
        rw [eT]
        exact ⟨h.err msgMant rfl rfl, ⟨by simp [hp], f2, f3, rfl, f5⟩, rfl⟩
      | false => exact same (by simp [noExpT, Tree.get, hp, f2', hk]) (by rw [← f1, hk]; rfl)
    | false =>
      have f2' : s.kind = 0 := f2
      exact same (by simp [noExpT, Tree.get, hp, f2']) (by simp)
  · exact same (by simp [noExpT, Tree.get, hp]) (by simp [hp])
theorem low_tab : ((List.range 128).all fun n => (decide (lowerF (n : Nat) = 101) == decide (n = 101 ∨ n = 69)) && (decide (lowerF (n : Nat) = 112) == decide (n = 112 ∨ n = 80)) && (decide (lowerF (n : Nat) = 120) == decide (n = 120 ∨ n = 88)) && (decide (lowerF (n : Nat) = 111) == decide (n = 111 ∨ n = 79)) && (decide (lowerF (n : Nat) = 98) == decide (n = 98 ∨ n = 66))) = true := by kernel_rfl
theorem low_of {c : Int} (h0 : 0 ≤ c) (h1 : c ≤ 1114111) : (lowerF c = 101 ↔ c = 101 ∨ c = 69) ∧ (lowerF c = 112 ↔ c = 112 ∨ c = 80) ∧ (lowerF c = 120 ↔ c = 120 ∨ c = 88) ∧ (lowerF c = 111 ↔ c = 111 ∨ c = 79) ∧ (lowerF c = 98 ↔ c = 98 ∨ c = 66) := by
  by_cases h : c < 128
  · have := List.all_eq_true.1 low_tab c.toNat (List.mem_range.2 (by omega))
    rw [show ((c.toNat : Nat) : Int) = c by omega] at this
    simp only [Bool.and_eq_true, beq_iff_eq, decide_eq_decide] at this
    obtain ⟨⟨⟨⟨t1, t2⟩, t3⟩, t4⟩, t5⟩ := this
    rw [t1, t2, t3, t4, t5]
    omega
  · have := lower_big (c := c) (by omega) h1
    omega
theorem low_eof : lowerF (-1) ≠ 101 ∧ lowerF (-1) ≠ 112 ∧ lowerF (-1) ≠ 120 ∧ lowerF (-1) ≠ 111 ∧ lowerF (-1) ≠ 98 := by decide +kernel
/-- The character that a state is at, by the list that stands there. -/
theorem At1.head {src : ByteArray} {q q' : Nat} {st : St} {c : Int} {cs : List Int} (h : At1 src q st) (hc : Cl src q (c :: cs) q') : st.ch = c ∧ 1 ≤ c ∧ c ≤ 1114111 := by
  cases hc with
  | cons k1 k2 => exact ⟨(h.std.of k1).1, k1.w.2.2.1, k1.w.2.2.2⟩
theorem At1.fin {src : ByteArray} {q : Nat} {st : St} {ex : NumE} {im : Bool} (h : At1 src q st) (he : NumEnd src q ex im) : decU st.ch = false ∧ hexU st.ch = false ∧ lowerF st.ch ≠ 101 ∧ lowerF st.ch ≠ 112 ∧ st.ch ≠ 105 ∧ st.ch ≠ 46 ∧ lowerF st.ch ≠ 120 ∧ lowerF st.ch ≠ 111 ∧ lowerF st.ch ≠ 98 := by
  rcases h.std.ch with k | ⟨_, k, _⟩
  · exact he.dec _ _ k
  · rw [k]
    exact ⟨by decide, by decide, low_eof.1, low_eof.2.1, by decide, by decide, low_eof.2.2.1, low_eof.2.2.2.1, low_eof.2.2.2.2⟩
def imChars (im : Bool) : List Int := if im = true then [105] else []
theorem p4_cl {src : ByteArray} {n : St} {q q2 : Nat} {s : NumS} {base pre : Int} {ok a b pt : Bool} {ex : NumE} {im : Bool} (h : Np src n q s) (hf : Nf ok (if pt = true then 1 else 0) base pre a b s) (hw : ExWf ex) (hc : Cl src q (exChars ex ++ imChars im) q2) (he : NumEnd src q2 ex im) :
    ∃ q', Cl src q' (imChars im) q2 ∧ Np src n q' ((p4T src True s).get numD) ∧ ∃ a', Nf (ok && exOk pre pt ex) (if pt = true ∨ ex.isSome = true then 1 else 0) base pre a' (b || exSp ex) ((p4T src True s).get numD) ∧ ((p4T src True s).get numD).inv = s.inv := by
  have hch := h.at1
  cases ex with
  | none =>
    have hno : lowerF s.st.ch ≠ 101 ∧ lowerF s.st.ch ≠ 112 := by
      cases im with
      | true => rw [(hch.head hc).1]; decide +kernel
      | false =>
        cases hc
        have := hch.fin he
        exact ⟨this.2.2.1, this.2.2.2.1⟩
    have n1 : (lowerF s.st.ch == 101) = false := by simpa using hno.1
    have n2 : (lowerF s.st.ch == 112) = false := by simpa using hno.2
    have e : (p4T src True s).get numD = (noExpT s).get numD := by simp only [p4T, Tree.get, n1, n2, Bool.false_eq_true, if_false]
    rw [e]
    obtain ⟨g1, g2, g3⟩ := noExp_cl h hf
    refine ⟨q, hc, g1, a, ?_, g3⟩
    simpa [exOk, exSp] using g2
  | some t =>
    obtain ⟨e, sg, ds⟩ := t
    obtain ⟨w1, w2, w3⟩ := hw
    obtain ⟨h1, h2, h3⟩ := hch.head (c := e) hc
    have hlow := low_of (c := e) (by omega) (by omega)
    cases hc with
    | @cons _ w _ _ _ k1 k2 =>
    obtain ⟨_, rfl⟩ := k1.byte (by omega)
    obtain ⟨m, m1, m2⟩ := Cl.split (us := sg ++ ds) (bs := imChars im) k2
    have hend : EndOf decU src m := by
      cases im with
      | true =>
        cases m2 with
        | cons j1 j2 => exact ⟨.inl ⟨_, _, j1⟩, fun r w hr => by rw [(hr.uniq j1).1]; decide⟩
      | false =>
        cases m2
        exact ⟨he.cl, fun r w hr => (he.dec r w hr).1⟩
    have hns : sg = [] → ds = [] → ∀ r w, ChAt src m r w → r ≠ 43 ∧ r ≠ 45 := fun z1 z2 r w hr => by
      subst z1 z2
      cases im with
      | true =>
        cases m2 with
        | cons j1 j2 => have := (hr.uniq j1).1; omega
      | false =>
        cases m2
        exact he.sgn e rfl rfl r w hr
    refine ⟨m, m2, ?_⟩
    have hl : lowerF e = 101 ∨ lowerF e = 112 := by
      rcases w1 with w | w | w | w
      · exact .inl (hlow.1.2 (.inl w))
      · exact .inl (hlow.1.2 (.inr w))
      · exact .inr (hlow.2.1.2 (.inl w))
      · exact .inr (hlow.2.1.2 (.inr w))
    have eT : (p4T src True s).get numD = if s.ok = true then (expSignT src (expErr (s, lowerF e))).get numD else (expSignT src s).get numD := by
      rcases hl with hl | hl
      · simp only [p4T, Tree.get, h1, hl, beq_self_eq_true, if_true]
      · simp only [p4T, Tree.get, h1, hl, beq_self_eq_true, if_true, show ((112 : Int) == 101) = false from rfl, Bool.false_eq_true, if_false]
    rw [eT]
    have hkind : (if pt = true ∨ (some (e, sg, ds) : NumE).isSome = true then (1 : Int) else 0) = 1 := by simp
    rw [hkind]
    cases hk : s.ok with
    | true =>
      rw [if_pos rfl]
      have hok : ok = true := by rw [← hf.ok]; exact hk
      subst hok
      obtain ⟨g1, g2, g3, g4⟩ := expErr_cl (ok := true) (lowerF e) h hf
      obtain ⟨i1, i2, i3⟩ := expSign_cl g1 g2 k1 (by omega) w2 m1 w3 hend hns
      refine ⟨i1, hasDg ds, ?_, by rw [i3, g4]⟩
      simpa [exOk, exSp, Bool.and_assoc] using i2
    | false =>
      have hok : ok = false := by rw [← hf.ok]; exact hk
      subst hok
      rw [if_neg (by simp)]
      obtain ⟨i1, i2, i3⟩ := expSign_cl h hf k1 (by omega) w2 m1 w3 hend hns
      exact ⟨i1, hasDg ds, by simpa [exSp] using i2, i3⟩
theorem p45_cl {src : ByteArray} {n : St} {q q2 : Nat} {s : NumS} {kind base pre : Int} {ok a b : Bool} {ex : NumE} {im : Bool} (h : Np src n q s) (hf : Nf ok kind base pre a b s) (hc : Cl src q (imChars im) q2) (he : NumEnd src q2 ex im) :
    Np src n q2 ((p45T src s).get numD) ∧ Nf ok (if im = true then 2 else kind) base pre a b ((p45T src s).get numD) ∧ ((p45T src s).get numD).inv = s.inv := by
  obtain ⟨f1, f2, f3, f4, f5⟩ := hf
  cases im with
  | true =>
    cases hc with
    | cons k1 k2 =>
      cases k2
      obtain ⟨_, rfl⟩ := k1.byte (by decide)
      obtain ⟨e, g1, g2⟩ := h.at1.next k1 (by decide) he.cl
      have eT : (p45T src s).get numD = { s with st := nextch src s.st, kind := 2 } := by simp [p45T, Tree.get, e]
      rw [eT]
      exact ⟨h.on g1 g2 rfl rfl, ⟨f1, by simp, f3, f4, f5⟩, rfl⟩
  | false =>
    cases hc
    have := h.at1.fin he
    have eT : (p45T src s).get numD = s := by simp [p45T, Tree.get, this.2.2.2.2.1]
    rw [eT]
    exact ⟨h, ⟨f1, by simp [f2], f3, f4, f5⟩, rfl⟩
/-- The end of a number: its text, whether it is good. -/
theorem p56_cl {src : ByteArray} {n : St} {q q2 : Nat} {s : NumS} {kind base pre : Int} {ok a b : Bool} (h : Np src n q2 s) (hf : Nf ok kind base pre a b s) (hI : NumI src n s) (hb : n.b = some q) :
    ∃ t : NumS, (p6T ((p5T src s).get numD)).get numD = t ∧ Std src q2 t.st ∧ t.ok = (ok && !(decide (kind = 0) && decide (0 ≤ s.inv)) && !(b && decide (0 ≤ invalidSepF (src.extract q q2)))) ∧
      (t.ok = true → t.st.notes = n.notes) ∧ (t.ok = false → n.notes.length < t.st.notes.length) ∧ t.st.lit = src.extract q q2 ∧ t.st.kind = kind ∧ t.st.tok = 3 ∧ t.st.nlsemi = true ∧ t.st.mode = n.mode ∧ t.st.line = n.line ∧ t.st.col = n.col := by
  obtain ⟨f1, f2, f3, f4, f5⟩ := hf
  have hk := hI.on.keep
  have hseg : seg src s.st = src.extract q q2 := by
    unfold seg
    rw [hI.on.b, hb, h.at1.std.cut]; rfl
  have hmode : s.st.mode = n.mode := by rw [hk]
  have hline : s.st.line = n.line := by rw [hk]
  have hcol : s.st.col = n.col := by rw [hk]
  have hlitE : (setLitF src s.kind s.ok s.st).lit = src.extract q q2 := hseg
  -- behind the text
  obtain ⟨u, hu, u1, u2, u3, u4, u5, u6⟩ : ∃ u : NumS, (p5T src s).get numD = u ∧ u.ok = (ok && !(decide (kind = 0) && decide (0 ≤ s.inv))) ∧ u.dig = bitsOf a b ∧ Std src q2 u.st ∧ (u.ok = true → u.st.notes = n.notes) ∧ (u.ok = false → n.notes.length < u.st.notes.length) ∧
      (u.st.lit = src.extract q q2 ∧ u.st.kind = kind ∧ u.st.tok = 3 ∧ u.st.nlsemi = true ∧ u.st.mode = n.mode ∧ u.st.line = n.line ∧ u.st.col = n.col) := by
    have plain : (p5T src s).get numD = { s with st := setLitF src s.kind s.ok s.st } → (ok && !(decide (kind = 0) && decide (0 ≤ s.inv))) = ok → ∃ u : NumS, (p5T src s).get numD = u ∧ u.ok = (ok && !(decide (kind = 0) && decide (0 ≤ s.inv))) ∧ u.dig = bitsOf a b ∧ Std src q2 u.st ∧ (u.ok = true → u.st.notes = n.notes) ∧ (u.ok = false → n.notes.length < u.st.notes.length) ∧
        (u.st.lit = src.extract q q2 ∧ u.st.kind = kind ∧ u.st.tok = 3 ∧ u.st.nlsemi = true ∧ u.st.mode = n.mode ∧ u.st.line = n.line ∧ u.st.col = n.col) := fun e1 e2 =>
      ⟨_, e1, by rw [e2]; exact f1, f5, h.at1.std.same rfl rfl rfl rfl, h.good, h.bad, hlitE, f2, rfl, rfl, hmode, hline, hcol⟩
    by_cases hk0 : kind = 0
    · by_cases hinv : 0 ≤ s.inv
      · cases hok : s.ok with
        | false =>
          have ho : ok = false := by rw [← f1]; exact hok
          refine plain ?_ (by rw [ho]; rfl)
          simp [p5T, Tree.get, f2, hk0, hinv, hok]
        | true =>
          have e : (p5T src s).get numD = { s with st := errorAtF s.inv msgInv (setLitF src s.kind s.ok s.st), ok := false } := by simp [p5T, Tree.get, f2, hk0, hinv, hok]
          refine ⟨_, e, by simp [hk0, hinv], f5, h.at1.std.same rfl rfl rfl rfl, fun h => (by cases h), fun _ => ?_, hlitE, f2, rfl, rfl, hmode, hline, hcol⟩
          show n.notes.length < (s.st.notes ++ [_]).length
          rw [h.good hok]; simp
      · refine plain ?_ (by simp [hinv])
        simp [p5T, Tree.get, f2, hk0, hinv]
    · refine plain ?_ (by simp [hk0])
      simp [p5T, Tree.get, f2, hk0]
  rw [hu]
  obtain ⟨l1, l2, l3, l4, l5, l6, l7⟩ := u6
  have e0 : (andI u.dig 2 != 0) = b := by rw [u2, and_two]; exact (bits_ne a b).2
  have same : (p6T u).get numD = u → (ok && !(decide (kind = 0) && decide (0 ≤ s.inv)) && !(b && decide (0 ≤ invalidSepF (src.extract q q2)))) = u.ok → ∃ t : NumS, (p6T u).get numD = t ∧ Std src q2 t.st ∧ t.ok = (ok && !(decide (kind = 0) && decide (0 ≤ s.inv)) && !(b && decide (0 ≤ invalidSepF (src.extract q q2)))) ∧
      (t.ok = true → t.st.notes = n.notes) ∧ (t.ok = false → n.notes.length < t.st.notes.length) ∧ t.st.lit = src.extract q q2 ∧ t.st.kind = kind ∧ t.st.tok = 3 ∧ t.st.nlsemi = true ∧ t.st.mode = n.mode ∧ t.st.line = n.line ∧ t.st.col = n.col := fun e1 e2 =>
    ⟨u, e1, u3, e2.symm, u4, u5, l1, l2, l3, l4, l5, l6, l7⟩
  cases b with
  | false => exact same (by simp [p6T, Tree.get, e0]) (by rw [u1]; simp)
  | true =>
    cases hok : u.ok with
    | false => exact same (by simp [p6T, Tree.get, e0, hok]) (by rw [← u1, hok]; rfl)
    | true =>
      by_cases hv : 0 ≤ invalidSepF (src.extract q q2)
      · have e : (p6T u).get numD = { u with st := errorAtF (invalidSepF u.st.lit) msgSep u.st, ok := false } := by simp [p6T, Tree.get, e0, hok, l1, hv]
        refine ⟨_, e, u3.same rfl rfl rfl rfl, by simp [hv], fun h => (by cases h), fun _ => ?_, l1, l2, l3, l4, l5, l6, l7⟩
        show n.notes.length < (u.st.notes ++ [_]).length
        rw [u4 hok]; simp
      · exact same (by simp [p6T, Tree.get, e0, hok, l1, hv]) (by rw [← u1, hok]; simp [hv])
end Sc
end Go.Proofs.YtogkcphobhhbdaaDoor

/- Plain: numbers, whole. -/
namespace Go.Proofs.YtogkcphobhhbdaaDoor
open Go Go.RowKit Go.Lib
namespace Sc
open Ev
set_option maxRecDepth 100000
/-- What a number has come to: its end, whether it is good. -/
structure NumTo (src : ByteArray) (n : St) (q q2 : Nat) (ok : Bool) (kind : Int) (t : NumS) : Prop where
  std : Std src q2 t.st
  ok : t.ok = ok
  good : t.ok = true → t.st.notes = n.notes
  bad : t.ok = false → n.notes.length < t.st.notes.length
  lit : t.st.lit = src.extract q q2
  kind : t.st.kind = kind
  tok : t.st.tok = 3
  nl : t.st.nlsemi = true
  mode : t.st.mode = n.mode
  lc : t.st.line = n.line ∧ t.st.col = n.col
def numKind (pt : Bool) (ex : NumE) (im : Bool) : Int := if im = true then 2 else if pt = true ∨ ex.isSome = true then 1 else 0
theorem numTail_run {src : ByteArray} {n : St} {q q1 q2 : Nat} {s1 : NumS} {base pre : Int} {ok a b pt : Bool} {d2 : List Int} {ex : NumE} {im : Bool} (hb : baseOk base) (hI : NumI src n s1) (hN : Np src n q1 s1) (hF : Nf ok 0 base pre a b s1) (hse : s1.seen = pt) (hnb : n.b = some q)
    (hc : Cl src q1 (d2 ++ (exChars ex ++ imChars im)) q2) (hd2 : ∀ x ∈ d2, digU base x = true) (hpt : pt = false → d2 = []) (hw : ExWf ex) (hE : NumEnd src q2 ex im) (hxe : ∀ e sg ds, ex = some (e, sg, ds) → digU base e = false) :
    ∃ t, (numTail src True Tree.leaf s1).get numD = t ∧ NumTo src n q q2 (ok && (a || hasDg d2) && exOk pre pt ex && !(decide (numKind pt ex im = 0) && decide (0 ≤ s1.inv)) && !((b || hasSp d2 || exSp ex) && decide (0 ≤ invalidSepF (src.extract q q2)))) (numKind pt ex im) t := by
  obtain ⟨e1, i5⟩ := numTail_get hI
  obtain ⟨m, c1, c2⟩ := Cl.split hc
  have hend : s1.seen = true → EndOf (digU base) src m := fun _ => by
    have hu : ∀ r, (r = 105) → digU base r = false := fun r hr => by rcases hb with rfl | rfl | rfl | rfl <;> (subst hr; decide)
    cases ex with
    | some t =>
      obtain ⟨e, sg, ds⟩ := t
      have c2 : Cl src m (e :: (sg ++ ds ++ imChars im)) q2 := c2
      cases c2 with
      | cons k1 k2 => exact ⟨.inl ⟨_, _, k1⟩, fun r w hr => by rw [(hr.uniq k1).1]; exact hxe e sg ds rfl⟩
    | none =>
      cases im with
      | true =>
        cases c2 with
        | cons k1 k2 => exact ⟨.inl ⟨_, _, k1⟩, fun r w hr => by rw [(hr.uniq k1).1]; exact hu _ rfl⟩
      | false =>
        cases c2
        refine ⟨hE.cl, fun r w hr => ?_⟩
        have := hE.dec r w hr
        unfold digU
        split
        · exact this.1
        · exact this.2.1
  obtain ⟨n2, f2, v2⟩ := p2_cl hb hN hF c1 hd2 hend (fun h => hpt (by rw [← hse]; exact h))
  rw [hse] at f2 v2
  obtain ⟨n3, f3, v3⟩ := p3_cl n2 f2
  obtain ⟨m4, c4, n4, a4, f4, v4⟩ := p4_cl n3 f3 hw c2 hE
  obtain ⟨n5, f5, v5⟩ := p45_cl n4 f4 c4 hE
  obtain ⟨t, t0, t1, t2, t3, t4, t5, t6, t7, t8, t9, t10, t11⟩ := p56_cl n5 f5 i5 hnb
  refine ⟨t, e1.trans t0, ⟨t1, ?_, t3, t4, t5, t6, t7, t8, t9, t10, t11⟩⟩
  rw [t2]
  have hv : decide (numKind pt ex im = 0) = true → decide (0 ≤ ((p45T src ((p4T src True ((p3T ((p2T src s1).get numD)).get numD)).get numD)).get numD).inv) = decide (0 ≤ s1.inv) := fun h => by
    have hk := of_decide_eq_true h
    unfold numKind at hk
    have hp : pt = false := by
      cases pt with
      | false => rfl
      | true => cases im <;> simp at hk
    rw [v5, v4, v3, v2 hp]
  have hkd : (if im = true then (2 : Int) else if pt = true ∨ ex.isSome = true then 1 else 0) = numKind pt ex im := rfl
  rw [hkd]
  cases hk : decide (numKind pt ex im = 0) with
  | false => simp
  | true => rw [hv hk]
/-! The integer part. -/
def ptChars (pt : Bool) : List Int := if pt = true then [46] else []
theorem n1_cl {src : ByteArray} {n st' : St} {q1 q2 : Nat} {base pre d0 inv' : Int} {a0 a b pt : Bool} {rest : List Int} (hd0 : d0 = bitsOf a0 false) (h : At1 src q1 st') (hs : Sil src n st') (hc : Cl src q1 (ptChars pt ++ rest) q2) (hq : Cln src q2) (hno : pt = false → st'.ch ≠ 46) :
    ∃ m s, (n1T src base pre d0 (st', bitsOf a b, inv')).get numD = s ∧ Cl src m rest q2 ∧ Np src n m s ∧ Nf (!(pt && (decide (pre = 111) || decide (pre = 98)))) 0 base pre (a0 || a) b s ∧ s.inv = inv' ∧ s.seen = pt := by
  subst hd0
  cases pt with
  | false =>
    have n1 : (st'.ch == 46) = false := by simpa using hno rfl
    refine ⟨q1, { st := st', ok := true, kind := 0, base := base, pre := pre, dig := orI (bitsOf a0 false) (bitsOf a b), inv := inv', seen := false }, by simp [n1T, Tree.get, n1], hc, ⟨h, fun _ => hs.notes, fun h => by cases h⟩, ⟨by simp, rfl, rfl, rfl, by rw [or_bits]; simp⟩, rfl, rfl⟩
  | true =>
    have hc : Cl src q1 (46 :: rest) q2 := hc
    cases hc with
    | @cons _ w _ _ _ k1 k2 =>
    obtain ⟨_, rfl⟩ := k1.byte (by decide)
    obtain ⟨e, g1, g2⟩ := h.next k1 (by decide) (k2.cln hq)
    have e2 : Std src (q1 + 1) (nextch src (error msgRadix st')) ∧ (nextch src (error msgRadix st')).notes = (error msgRadix st').notes := by
      obtain ⟨_, y1, y2⟩ := (h.err msgRadix).next k1 (by decide) (k2.cln hq)
      exact ⟨y1.std, y2.notes⟩
    have g3 : At1 src (q1 + 1) (nextch src (error msgRadix st')) := ((h.err msgRadix).next k1 (by decide) (k2.cln hq)).2.1
    have n1 : (st'.ch == 46) = true := by simpa using e
    have hm : n.notes.length < (nextch src (error msgRadix st')).notes.length := by
      rw [e2.2]
      have := err_more msgRadix st'
      rw [hs.notes] at this
      exact this
    have bad : pre = 111 ∨ pre = 98 → ∃ m s, (n1T src base pre (bitsOf a0 false) (st', bitsOf a b, inv')).get numD = s ∧ Cl src m rest q2 ∧ Np src n m s ∧ Nf (!(true && (decide (pre = 111) || decide (pre = 98)))) 0 base pre (a0 || a) b s ∧ s.inv = inv' ∧ s.seen = true := fun hp => by
      refine ⟨q1 + 1, { st := nextch src (error msgRadix st'), ok := false, kind := 0, base := base, pre := pre, dig := orI (bitsOf a0 false) (bitsOf a b), inv := inv', seen := true }, ?_, k2, ⟨g3, fun h => (by cases h), fun _ => hm⟩, ⟨?_, rfl, rfl, rfl, by rw [or_bits]; simp⟩, rfl, rfl⟩
      · rcases hp with rfl | rfl
        · simp [n1T, Tree.get, n1]
        · simp [n1T, Tree.get, n1]
      · rcases hp with rfl | rfl <;> rfl
    by_cases h1 : pre = 111
    · exact bad (.inl h1)
    · by_cases h2 : pre = 98
      · exact bad (.inr h2)
      · have p1 : (pre == 111) = false := by simpa using h1
        have p2 : (pre == 98) = false := by simpa using h2
        refine ⟨q1 + 1, { st := nextch src st', ok := true, kind := 0, base := base, pre := pre, dig := orI (bitsOf a0 false) (bitsOf a b), inv := inv', seen := true }, by simp [n1T, Tree.get, n1, p1, p2], k2, ⟨g1, fun _ => by show (nextch src st').notes = _; rw [g2.notes, hs.notes], fun h => by cases h⟩, ⟨by simp [h1, h2], rfl, rfl, rfl, by rw [or_bits]; simp⟩, rfl, rfl⟩
/-- A number's parts, as they stand. -/
structure NumP where
  pre : Int
  pc : Int
  d1 : List Int
  pt : Bool
  d2 : List Int
  ex : NumE
  im : Bool
def NumP.base (P : NumP) : Int := if P.pre = 0 then 10 else if P.pre = 120 then 16 else if P.pre = 98 then 2 else 8
def NumP.head (P : NumP) : List Int := if P.pre = 0 then [] else if P.pre = 48 then [48] else [48, P.pc]
def NumP.tail (P : NumP) : List Int := ptChars P.pt ++ (P.d2 ++ (exChars P.ex ++ imChars P.im))
def NumP.chars (P : NumP) : List Int := P.head ++ (P.d1 ++ P.tail)
structure NumP.Wf (P : NumP) : Prop where
  pre : (P.pre = 0 ∧ ∃ c t, P.d1 = c :: t ∧ 49 ≤ c ∧ c ≤ 57) ∨ P.pre = 48 ∨ (P.pre = 120 ∧ (P.pc = 120 ∨ P.pc = 88)) ∨ (P.pre = 111 ∧ (P.pc = 111 ∨ P.pc = 79)) ∨ (P.pre = 98 ∧ (P.pc = 98 ∨ P.pc = 66))
  d1 : ∀ x ∈ P.d1, digU P.base x = true
  d2 : ∀ x ∈ P.d2, digU P.base x = true
  pt : P.pt = false → P.d2 = []
  ex : ExWf P.ex
  xe : ∀ e sg ds, P.ex = some (e, sg, ds) → digU P.base e = false
def NumP.kind (P : NumP) : Int := numKind P.pt P.ex P.im
def NumP.ok (P : NumP) (lit : ByteArray) : Bool :=
  !(P.pt && (decide (P.pre = 111) || decide (P.pre = 98))) && (decide (P.pre = 48) || hasDg P.d1 || hasDg P.d2) && exOk P.pre P.pt P.ex && !(decide (P.kind = 0) && (decide (P.base ≤ 10) && badDg (48 + P.base) P.d1)) && !((hasSp P.d1 || hasSp P.d2 || exSp P.ex) && decide (0 ≤ invalidSepF lit))
theorem NumP.Wf.baseOk {P : NumP} (h : P.Wf) : baseOk P.base := by
  unfold NumP.base Sc.baseOk
  rcases h.pre with ⟨h, _⟩ | h | ⟨h, _⟩ | ⟨h, _⟩ | ⟨h, _⟩ <;> rw [h] <;> decide
/-- Behind the first digits: what ends them. -/
theorem tail_end {src : ByteArray} {P : NumP} (hw : P.Wf) {m q2 : Nat} (h : Cl src m P.tail q2) (he : NumEnd src q2 P.ex P.im) : EndOf (digU P.base) src m ∧ ∀ st, Std src m st → (P.pt = false → st.ch ≠ 46) ∧ lowerF st.ch ≠ 120 ∧ lowerF st.ch ≠ 111 ∧ lowerF st.ch ≠ 98 := by
  have hb := hw.baseOk
  have hu : ∀ r, r = 105 ∨ r = 46 → digU P.base r = false := fun r hr => by
    rcases hb with e | e | e | e <;> rw [e] <;> (rcases hr with rfl | rfl <;> decide)
  have fin : Cl src m [] q2 → EndOf (digU P.base) src m ∧ ∀ st, Std src m st → (P.pt = false → st.ch ≠ 46) ∧ lowerF st.ch ≠ 120 ∧ lowerF st.ch ≠ 111 ∧ lowerF st.ch ≠ 98 := fun h => by
    cases h
    refine ⟨⟨he.cl, fun r w hr => ?_⟩, fun st hst => ?_⟩
    · have := he.dec r w hr
      unfold digU
      split
      · exact this.1
      · exact this.2.1
    · rcases hst.ch with k | ⟨_, k, _⟩
      · have := he.dec _ _ k
        exact ⟨fun _ => this.2.2.2.2.2.1, this.2.2.2.2.2.2⟩
      · rw [k]
        exact ⟨fun _ => by decide, low_eof.2.2⟩
  have one : ∀ (c : Int) (t : List Int), digU P.base c = false → lowerF c ≠ 120 ∧ lowerF c ≠ 111 ∧ lowerF c ≠ 98 → (P.pt = false → c ≠ 46) → Cl src m (c :: t) q2 → EndOf (digU P.base) src m ∧ ∀ st, Std src m st → (P.pt = false → st.ch ≠ 46) ∧ lowerF st.ch ≠ 120 ∧ lowerF st.ch ≠ 111 ∧ lowerF st.ch ≠ 98 := fun c t h1 h2 h3 h => by
    cases h with
    | cons k1 k2 =>
      refine ⟨⟨.inl ⟨_, _, k1⟩, fun r w hr => by rw [(hr.uniq k1).1]; exact h1⟩, fun st hst => ?_⟩
      rw [(hst.of k1).1]
      exact ⟨h3, h2⟩
  unfold NumP.tail at h
  cases hp : P.pt with
  | true =>
    rw [hp] at h one
    exact one 46 _ (hu 46 (.inr rfl)) (by decide +kernel) (fun h => by cases h) h
  | false =>
    rw [hp, hw.pt hp] at h
    rw [hp] at one fin
    have h : Cl src m (exChars P.ex ++ imChars P.im) q2 := h
    cases hx : P.ex with
    | some t =>
      obtain ⟨e, sg, ds⟩ := t
      rw [hx] at h
      have hwx := hw.ex
      rw [hx] at hwx
      have h : Cl src m (e :: (sg ++ ds ++ imChars P.im)) q2 := h
      obtain ⟨w1, _, _⟩ := hwx
      refine one e _ (hw.xe e sg ds hx) ?_ (fun _ => by omega) h
      rcases w1 with rfl | rfl | rfl | rfl <;> decide +kernel
    | none =>
      rw [hx] at h
      cases hi : P.im with
      | true =>
        rw [hi] at h
        exact one 105 _ (hu 105 (.inl rfl)) (by decide +kernel) (fun _ => by decide) h
      | false =>
        rw [hi] at h
        exact fin h
theorem pre2 {src : ByteArray} {n : St} {q m0 : Nat} {c : Int} (hn : At1 src q n) (c0 : Cl src q [48, c] m0) (hcl : Cln src m0) (hc : 60 < c ∧ c < 128) : (n.ch == 48) = true ∧ (nextch src n).ch = c ∧ At1 src m0 (nextch src (nextch src n)) ∧ Sil src n (nextch src (nextch src n)) ∧
    ((lowerF c = 101 ↔ c = 101 ∨ c = 69) ∧ (lowerF c = 112 ↔ c = 112 ∨ c = 80) ∧ (lowerF c = 120 ↔ c = 120 ∨ c = 88) ∧ (lowerF c = 111 ↔ c = 111 ∨ c = 79) ∧ (lowerF c = 98 ↔ c = 98 ∨ c = 66)) := by
  cases c0 with
  | @cons _ w _ _ _ k1 k2 =>
  cases k2 with
  | @cons _ w2 _ _ _ k3 k4 =>
  cases k4
  obtain ⟨_, rfl⟩ := k1.byte (by decide)
  obtain ⟨_, rfl⟩ := k3.byte (by omega)
  obtain ⟨e, g1, g2⟩ := hn.next k1 (by decide) (.inl ⟨_, _, k3⟩)
  obtain ⟨e', g3, g4⟩ := g1.next k3 (by omega) hcl
  exact ⟨by simpa using e, e', g3, g2.trans g4, low_of (by omega) (by omega)⟩
theorem num_run {src : ByteArray} {n : St} {q q2 : Nat} {P : NumP} (hw : P.Wf) (hn : At1 src q n) (hb : n.b = some q) (hc : Cl src q P.chars q2) (he : NumEnd src q2 P.ex P.im) : NumTo src n q q2 (P.ok (src.extract q q2)) P.kind (numS src false n) := by
  have hbase := hw.baseOk
  have hcln := he.cl
  unfold NumP.chars at hc
  obtain ⟨m0, c0, c1⟩ := Cl.split hc
  obtain ⟨m1, c2, c3⟩ := Cl.split c1
  obtain ⟨tE, tS⟩ := tail_end hw c3 he
  -- the first part
  have first : ∃ (r : St × Int × Int) (d0 : Int) (st1 : St), (p1FT src n).get numD = (n1T src P.base P.pre d0 r).get numD ∧ r = digitsF src P.base st1 (-1) ∧ d0 = bitsOf (decide (P.pre = 48)) false ∧ At1 src m0 st1 ∧ Sil src n st1 := by
    have behind : P.pre = 48 → ∀ st, Std src m0 st → lowerF st.ch ≠ 120 ∧ lowerF st.ch ≠ 111 ∧ lowerF st.ch ≠ 98 := fun hp st hst => by
      cases hd : P.d1 with
      | nil =>
        rw [hd] at c2
        cases c2
        exact (tS st hst).2
      | cons x t =>
        rw [hd] at c2
        cases c2 with
        | cons k1 k2 =>
          have hx := hw.d1 x (by rw [hd]; simp)
          have e8 : P.base = 8 := by unfold NumP.base; rw [hp]; decide
          rw [e8] at hx
          have hx : decU x = true := hx
          have := decU_in hx
          have hl := low_of (c := x) (by omega) (by omega)
          rw [(hst.of k1).1]
          omega
    rcases hw.pre with ⟨hp, c, t, hd, h49, h57⟩ | hp | ⟨hp, hpc⟩ | ⟨hp, hpc⟩ | ⟨hp, hpc⟩
    · have ch : P.head = [] := by unfold NumP.head; rw [if_pos hp]
      rw [ch] at c0
      cases c0
      have hch : n.ch ≠ 48 := by
        rw [hd] at c2
        cases c2 with
        | cons k1 k2 => rw [(hn.std.of k1).1]; omega
      have e48 : (n.ch == 48) = false := by simpa using hch
      have eb : P.base = 10 := by unfold NumP.base; rw [if_pos hp]
      refine ⟨_, 0, n, ?_, rfl, by rw [hp]; rfl, hn, Sil.refl _ _⟩
      simp only [p1FT, Tree.get, e48, Bool.false_eq_true, if_false, eb, hp]
    · have ch : P.head = [48] := by unfold NumP.head; rw [hp]; rfl
      rw [ch] at c0
      cases c0 with
      | @cons _ w _ _ _ k1 k2 =>
      cases k2
      obtain ⟨_, rfl⟩ := k1.byte (by decide)
      obtain ⟨e, g1, g2⟩ := hn.next k1 (by decide) (c1.cln hcln)
      obtain ⟨b1, b2, b3⟩ := behind hp _ g1.std
      have e48 : (n.ch == 48) = true := by simpa using e
      have x1 : (lowerF (nextch src n).ch == 120) = false := by simpa using b1
      have x2 : (lowerF (nextch src n).ch == 111) = false := by simpa using b2
      have x3 : (lowerF (nextch src n).ch == 98) = false := by simpa using b3
      have eb : P.base = 8 := by unfold NumP.base; rw [hp]; decide
      refine ⟨_, 1, nextch src n, ?_, rfl, by rw [hp]; rfl, g1, g2⟩
      simp only [p1FT, Tree.get, e48, x1, x2, x3, Bool.false_eq_true, if_false, if_true, eb, hp]
    · obtain ⟨e48, e', g3, g4, hl⟩ := pre2 hn (by rw [← show P.head = [48, P.pc] by unfold NumP.head; rw [hp]; rfl]; exact c0) (c1.cln hcln) (by omega)
      refine ⟨_, 0, nextch src (nextch src n), ?_, rfl, (by rw [hp]; rfl), g3, g4⟩
      have x1 : (lowerF (nextch src n).ch == 120) = true := by rw [e']; simpa using hl.2.2.1.2 hpc
      have eb : P.base = 16 := by unfold NumP.base; rw [hp]; decide
      simp only [p1FT, Tree.get, e48, x1, if_true, eb, hp]
    · obtain ⟨e48, e', g3, g4, hl⟩ := pre2 hn (by rw [← show P.head = [48, P.pc] by unfold NumP.head; rw [hp]; rfl]; exact c0) (c1.cln hcln) (by omega)
      refine ⟨_, 0, nextch src (nextch src n), ?_, rfl, (by rw [hp]; rfl), g3, g4⟩
      have x0 := hl.2.2.2.1.2 hpc
      have x1 : (lowerF (nextch src n).ch == 120) = false := by rw [e', x0]; rfl
      have x2 : (lowerF (nextch src n).ch == 111) = true := by rw [e', x0]; rfl
      have eb : P.base = 8 := by unfold NumP.base; rw [hp]; decide
      simp only [p1FT, Tree.get, e48, x1, x2, Bool.false_eq_true, if_false, if_true, eb, hp]
    · obtain ⟨e48, e', g3, g4, hl⟩ := pre2 hn (by rw [← show P.head = [48, P.pc] by unfold NumP.head; rw [hp]; rfl]; exact c0) (c1.cln hcln) (by omega)
      refine ⟨_, 0, nextch src (nextch src n), ?_, rfl, (by rw [hp]; rfl), g3, g4⟩
      have x0 := hl.2.2.2.2.2 hpc
      have x1 : (lowerF (nextch src n).ch == 120) = false := by rw [e', x0]; rfl
      have x2 : (lowerF (nextch src n).ch == 111) = false := by rw [e', x0]; rfl
      have x3 : (lowerF (nextch src n).ch == 98) = true := by rw [e', x0]; rfl
      have eb : P.base = 2 := by unfold NumP.base; rw [hp]; decide
      simp only [p1FT, Tree.get, e48, x1, x2, x3, Bool.false_eq_true, if_false, if_true, eb, hp]
  have h10 : n.ch ≠ 10 := by
    rcases hw.pre with ⟨hp, c, t, hd, h49, h57⟩ | hp
    · have ch : P.head = [] := by unfold NumP.head; rw [if_pos hp]
      rw [ch] at c0
      cases c0
      rw [hd] at c2
      cases c2 with
      | cons k1 k2 => rw [(hn.std.of k1).1]; omega
    · have ch : ∃ t, P.head = 48 :: t := by
        unfold NumP.head
        rcases hp with hp | ⟨hp, _⟩ | ⟨hp, _⟩ | ⟨hp, _⟩ <;> rw [hp] <;> exact ⟨_, rfl⟩
      obtain ⟨t, ch⟩ := ch
      rw [ch] at c0
      cases c0 with
      | cons k1 k2 => rw [(hn.std.of k1).1]; decide
  have hsat := p1FT_sat hn.off h10
  have hI := get_of_sat (d := numD) hsat
  obtain ⟨r, d0, st1, f1, f2, f3, f4, f5⟩ := first
  obtain ⟨st2, inv2, k1, k2, k3, k4⟩ := digits_cl hbase c2 (-1) hw.d1 tE f4
  rw [f2, k1] at f1
  obtain ⟨m2, s, j1, j2, j3, j4, j5, j6⟩ := n1_cl (n := n) (base := P.base) (pre := P.pre) (d0 := d0) (inv' := inv2) (a0 := decide (P.pre = 48)) (a := hasDg P.d1) (b := hasSp P.d1) (pt := P.pt) f3 k2 (f5.trans k3) c3 hcln (fun h => (tS st2 k2.std).1 h)
  rw [j1] at f1
  rw [f1] at hI
  obtain ⟨t, t1, t2⟩ := numTail_run hbase hI j3 j4 j6 hb j2 hw.d2 hw.pt hw.ex he hw.xe
  have e : numS src false n = t := by
    unfold numS numTree
    rw [if_neg (by simp), get_bind hsat _ _ numD, f1]
    exact t1
  rw [e]
  have hok : (!(P.pt && (decide (P.pre = 111) || decide (P.pre = 98))) && (decide (P.pre = 48) || hasDg P.d1 || hasDg P.d2) && exOk P.pre P.pt P.ex && !(decide (numKind P.pt P.ex P.im = 0) && decide (0 ≤ s.inv)) && !((hasSp P.d1 || hasSp P.d2 || exSp P.ex) && decide (0 ≤ invalidSepF (src.extract q q2)))) = P.ok (src.extract q q2) := by
    have hi : decide (0 ≤ s.inv) = (decide (P.base ≤ 10) && badDg (48 + P.base) P.d1) := by
      rw [j5]
      rw [if_pos (by decide)] at k4
      by_cases hx : P.base ≤ 10 ∧ badDg (48 + P.base) P.d1 = true
      · rw [if_pos hx] at k4
        simp [hx.1, hx.2, k4]
      · rw [if_neg hx] at k4
        rw [k4]
        have : (decide (P.base ≤ 10) && badDg (48 + P.base) P.d1) = false := by
          cases h2 : badDg (48 + P.base) P.d1 with
          | false => simp
          | true =>
            have : ¬ P.base ≤ 10 := fun h => hx ⟨h, h2⟩
            simp [this]
        rw [this]; rfl
    unfold NumP.ok NumP.kind
    rw [hi]
  rw [hok] at t2
  exact t2
end Sc
end Go.Proofs.YtogkcphobhhbdaaDoor
