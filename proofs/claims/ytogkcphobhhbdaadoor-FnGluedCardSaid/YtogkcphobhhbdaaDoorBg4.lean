/- The scanner of the program told as plain functions, part 4: texts joined by a program (wip/tools/shake.py), without what this claim does not reach. -/
import Derived.Test.YtogkcphobhhbdaaDoorBg3
import Derived.Deep.RegionHeld3
import Derived.Deep.AppendLies
import Derived.Shelf.Utf8.AppendRunePlain
import Derived.Shelf.Strings.Search1
import Derived.Shelf.Strings.Prefix
import Derived.Test.YtogkcphobhhbdaaDoorProg
import Derived.Lib.OthersKept
import Derived.Lib.DecodeN
import Derived.Laws.BitsLemmas
import Derived.Lib.RuneBytes
set_option linter.unusedVariables false
set_option linter.unusedSimpArgs false
/- token.String and Operator.String walked. (Printed by tools/genStr.py.) -/
namespace Go.Proofs.YtogkcphobhhbdaaDoor
open Go Go.RowKit Go.Lib
namespace Sc
set_option maxRecDepth 100000
def opNames : ByteArray := ⟨#[58,33,60,45,126,124,124,38,38,61,61,33,61,60,60,61,62,62,61,43,45,124,94,42,47,37,38,38,94,60,60,62,62]⟩
def opIx (i : Nat) : Nat := [0, 1, 2, 4, 5, 7, 9, 11, 13, 14, 16, 17, 19, 20, 21, 22, 23, 24, 25, 26, 27, 29, 31, 33].getD i 0
/-- The sign of operator t (from 1 on). -/
def opWord (t : Nat) : ByteArray := opNames.extract (opIx (t - 1)) (opIx t)
theorem tokS_1 (w : World) (c1 : w.cell? ⟨1, 0, none⟩ = some (.int .u8 0)) (c2 : w.cell? ⟨1, 1, none⟩ = some (.int .u8 3)) :
    Calls Tryd.prog 53 #[.int .u64 1] w fun e w' => e = .returned (.string (tokWord 1)) ∧ ∃ m, w' = w.drewN m := by
  go_enter Tryd.func53, Tryd.ntmps53
  go_wp2_with fail
  go_quiet (fail)
  go_wp2_with fail
  go_ret
  exact ⟨rfl, _, rfl⟩
theorem tokS_2 (w : World) (c1 : w.cell? ⟨1, 1, none⟩ = some (.int .u8 3)) (c2 : w.cell? ⟨1, 2, none⟩ = some (.int .u8 7)) :
    Calls Tryd.prog 53 #[.int .u64 2] w fun e w' => e = .returned (.string (tokWord 2)) ∧ ∃ m, w' = w.drewN m := by
  go_enter Tryd.func53, Tryd.ntmps53
  go_wp2_with fail
  go_quiet (fail)
  go_wp2_with fail
  go_ret
  exact ⟨rfl, _, rfl⟩
theorem tokS_3 (w : World) (c1 : w.cell? ⟨1, 2, none⟩ = some (.int .u8 7)) (c2 : w.cell? ⟨1, 3, none⟩ = some (.int .u8 14)) :
    Calls Tryd.prog 53 #[.int .u64 3] w fun e w' => e = .returned (.string (tokWord 3)) ∧ ∃ m, w' = w.drewN m := by
  go_enter Tryd.func53, Tryd.ntmps53
  go_wp2_with fail
  go_quiet (fail)
  go_wp2_with fail
  go_ret
  exact ⟨rfl, _, rfl⟩
theorem tokS_4 (w : World) (c1 : w.cell? ⟨1, 3, none⟩ = some (.int .u8 14)) (c2 : w.cell? ⟨1, 4, none⟩ = some (.int .u8 16)) :
    Calls Tryd.prog 53 #[.int .u64 4] w fun e w' => e = .returned (.string (tokWord 4)) ∧ ∃ m, w' = w.drewN m := by
  go_enter Tryd.func53, Tryd.ntmps53
  go_wp2_with fail
  go_quiet (fail)
  go_wp2_with fail
  go_ret
  exact ⟨rfl, _, rfl⟩
theorem tokS_5 (w : World) (c1 : w.cell? ⟨1, 4, none⟩ = some (.int .u8 16)) (c2 : w.cell? ⟨1, 5, none⟩ = some (.int .u8 19)) :
    Calls Tryd.prog 53 #[.int .u64 5] w fun e w' => e = .returned (.string (tokWord 5)) ∧ ∃ m, w' = w.drewN m := by
  go_enter Tryd.func53, Tryd.ntmps53
  go_wp2_with fail
  go_quiet (fail)
  go_wp2_with fail
  go_ret
  exact ⟨rfl, _, rfl⟩
theorem tokS_6 (w : World) (c1 : w.cell? ⟨1, 5, none⟩ = some (.int .u8 19)) (c2 : w.cell? ⟨1, 6, none⟩ = some (.int .u8 23)) :
    Calls Tryd.prog 53 #[.int .u64 6] w fun e w' => e = .returned (.string (tokWord 6)) ∧ ∃ m, w' = w.drewN m := by
  go_enter Tryd.func53, Tryd.ntmps53
  go_wp2_with fail
  go_quiet (fail)
  go_wp2_with fail
  go_ret
  exact ⟨rfl, _, rfl⟩
theorem tokS_7 (w : World) (c1 : w.cell? ⟨1, 6, none⟩ = some (.int .u8 23)) (c2 : w.cell? ⟨1, 7, none⟩ = some (.int .u8 24)) :
    Calls Tryd.prog 53 #[.int .u64 7] w fun e w' => e = .returned (.string (tokWord 7)) ∧ ∃ m, w' = w.drewN m := by
  go_enter Tryd.func53, Tryd.ntmps53
  go_wp2_with fail
  go_quiet (fail)
  go_wp2_with fail
  go_ret
  exact ⟨rfl, _, rfl⟩
theorem tokS_8 (w : World) (c1 : w.cell? ⟨1, 7, none⟩ = some (.int .u8 24)) (c2 : w.cell? ⟨1, 8, none⟩ = some (.int .u8 26)) :
    Calls Tryd.prog 53 #[.int .u64 8] w fun e w' => e = .returned (.string (tokWord 8)) ∧ ∃ m, w' = w.drewN m := by
  go_enter Tryd.func53, Tryd.ntmps53
  go_wp2_with fail
  go_quiet (fail)
  go_wp2_with fail
  go_ret
  exact ⟨rfl, _, rfl⟩
theorem tokS_9 (w : World) (c1 : w.cell? ⟨1, 8, none⟩ = some (.int .u8 26)) (c2 : w.cell? ⟨1, 9, none⟩ = some (.int .u8 28)) :
    Calls Tryd.prog 53 #[.int .u64 9] w fun e w' => e = .returned (.string (tokWord 9)) ∧ ∃ m, w' = w.drewN m := by
  go_enter Tryd.func53, Tryd.ntmps53
  go_wp2_with fail
  go_quiet (fail)
  go_wp2_with fail
  go_ret
  exact ⟨rfl, _, rfl⟩
theorem tokS_10 (w : World) (c1 : w.cell? ⟨1, 9, none⟩ = some (.int .u8 28)) (c2 : w.cell? ⟨1, 10, none⟩ = some (.int .u8 29)) :
    Calls Tryd.prog 53 #[.int .u64 10] w fun e w' => e = .returned (.string (tokWord 10)) ∧ ∃ m, w' = w.drewN m := by
  go_enter Tryd.func53, Tryd.ntmps53
  go_wp2_with fail
  go_quiet (fail)
  go_wp2_with fail
  go_ret
  exact ⟨rfl, _, rfl⟩
theorem tokS_11 (w : World) (c1 : w.cell? ⟨1, 10, none⟩ = some (.int .u8 29)) (c2 : w.cell? ⟨1, 11, none⟩ = some (.int .u8 30)) :
    Calls Tryd.prog 53 #[.int .u64 11] w fun e w' => e = .returned (.string (tokWord 11)) ∧ ∃ m, w' = w.drewN m := by
  go_enter Tryd.func53, Tryd.ntmps53
  go_wp2_with fail
  go_quiet (fail)
  go_wp2_with fail
  go_ret
  exact ⟨rfl, _, rfl⟩
theorem tokS_12 (w : World) (c1 : w.cell? ⟨1, 11, none⟩ = some (.int .u8 30)) (c2 : w.cell? ⟨1, 12, none⟩ = some (.int .u8 31)) :
    Calls Tryd.prog 53 #[.int .u64 12] w fun e w' => e = .returned (.string (tokWord 12)) ∧ ∃ m, w' = w.drewN m := by
  go_enter Tryd.func53, Tryd.ntmps53
  go_wp2_with fail
  go_quiet (fail)
  go_wp2_with fail
  go_ret
  exact ⟨rfl, _, rfl⟩
theorem tokS_13 (w : World) (c1 : w.cell? ⟨1, 12, none⟩ = some (.int .u8 31)) (c2 : w.cell? ⟨1, 13, none⟩ = some (.int .u8 32)) :
    Calls Tryd.prog 53 #[.int .u64 13] w fun e w' => e = .returned (.string (tokWord 13)) ∧ ∃ m, w' = w.drewN m := by
  go_enter Tryd.func53, Tryd.ntmps53
  go_wp2_with fail
  go_quiet (fail)
  go_wp2_with fail
  go_ret
  exact ⟨rfl, _, rfl⟩
theorem tokS_14 (w : World) (c1 : w.cell? ⟨1, 13, none⟩ = some (.int .u8 32)) (c2 : w.cell? ⟨1, 14, none⟩ = some (.int .u8 33)) :
    Calls Tryd.prog 53 #[.int .u64 14] w fun e w' => e = .returned (.string (tokWord 14)) ∧ ∃ m, w' = w.drewN m := by
  go_enter Tryd.func53, Tryd.ntmps53
  go_wp2_with fail
  go_quiet (fail)
  go_wp2_with fail
  go_ret
  exact ⟨rfl, _, rfl⟩
theorem tokS_15 (w : World) (c1 : w.cell? ⟨1, 14, none⟩ = some (.int .u8 33)) (c2 : w.cell? ⟨1, 15, none⟩ = some (.int .u8 34)) :
    Calls Tryd.prog 53 #[.int .u64 15] w fun e w' => e = .returned (.string (tokWord 15)) ∧ ∃ m, w' = w.drewN m := by
  go_enter Tryd.func53, Tryd.ntmps53
  go_wp2_with fail
  go_quiet (fail)
  go_wp2_with fail
  go_ret
  exact ⟨rfl, _, rfl⟩
theorem tokS_16 (w : World) (c1 : w.cell? ⟨1, 15, none⟩ = some (.int .u8 34)) (c2 : w.cell? ⟨1, 16, none⟩ = some (.int .u8 35)) :
    Calls Tryd.prog 53 #[.int .u64 16] w fun e w' => e = .returned (.string (tokWord 16)) ∧ ∃ m, w' = w.drewN m := by
  go_enter Tryd.func53, Tryd.ntmps53
  go_wp2_with fail
  go_quiet (fail)
  go_wp2_with fail
  go_ret
  exact ⟨rfl, _, rfl⟩
theorem tokS_17 (w : World) (c1 : w.cell? ⟨1, 16, none⟩ = some (.int .u8 35)) (c2 : w.cell? ⟨1, 17, none⟩ = some (.int .u8 36)) :
    Calls Tryd.prog 53 #[.int .u64 17] w fun e w' => e = .returned (.string (tokWord 17)) ∧ ∃ m, w' = w.drewN m := by
  go_enter Tryd.func53, Tryd.ntmps53
  go_wp2_with fail
  go_quiet (fail)
  go_wp2_with fail
  go_ret
  exact ⟨rfl, _, rfl⟩
theorem tokS_18 (w : World) (c1 : w.cell? ⟨1, 17, none⟩ = some (.int .u8 36)) (c2 : w.cell? ⟨1, 18, none⟩ = some (.int .u8 37)) :
    Calls Tryd.prog 53 #[.int .u64 18] w fun e w' => e = .returned (.string (tokWord 18)) ∧ ∃ m, w' = w.drewN m := by
  go_enter Tryd.func53, Tryd.ntmps53
  go_wp2_with fail
  go_quiet (fail)
  go_wp2_with fail
  go_ret
  exact ⟨rfl, _, rfl⟩
theorem tokS_19 (w : World) (c1 : w.cell? ⟨1, 18, none⟩ = some (.int .u8 37)) (c2 : w.cell? ⟨1, 19, none⟩ = some (.int .u8 38)) :
    Calls Tryd.prog 53 #[.int .u64 19] w fun e w' => e = .returned (.string (tokWord 19)) ∧ ∃ m, w' = w.drewN m := by
  go_enter Tryd.func53, Tryd.ntmps53
  go_wp2_with fail
  go_quiet (fail)
  go_wp2_with fail
  go_ret
  exact ⟨rfl, _, rfl⟩
theorem tokS_20 (w : World) (c1 : w.cell? ⟨1, 19, none⟩ = some (.int .u8 38)) (c2 : w.cell? ⟨1, 20, none⟩ = some (.int .u8 39)) :
    Calls Tryd.prog 53 #[.int .u64 20] w fun e w' => e = .returned (.string (tokWord 20)) ∧ ∃ m, w' = w.drewN m := by
  go_enter Tryd.func53, Tryd.ntmps53
  go_wp2_with fail
  go_quiet (fail)
  go_wp2_with fail
  go_ret
  exact ⟨rfl, _, rfl⟩
theorem tokS_21 (w : World) (c1 : w.cell? ⟨1, 20, none⟩ = some (.int .u8 39)) (c2 : w.cell? ⟨1, 21, none⟩ = some (.int .u8 42)) :
    Calls Tryd.prog 53 #[.int .u64 21] w fun e w' => e = .returned (.string (tokWord 21)) ∧ ∃ m, w' = w.drewN m := by
  go_enter Tryd.func53, Tryd.ntmps53
  go_wp2_with fail
  go_quiet (fail)
  go_wp2_with fail
  go_ret
  exact ⟨rfl, _, rfl⟩
theorem tokS_22 (w : World) (c1 : w.cell? ⟨1, 21, none⟩ = some (.int .u8 42)) (c2 : w.cell? ⟨1, 22, none⟩ = some (.int .u8 47)) :
    Calls Tryd.prog 53 #[.int .u64 22] w fun e w' => e = .returned (.string (tokWord 22)) ∧ ∃ m, w' = w.drewN m := by
  go_enter Tryd.func53, Tryd.ntmps53
  go_wp2_with fail
  go_quiet (fail)
  go_wp2_with fail
  go_ret
  exact ⟨rfl, _, rfl⟩
theorem tokS_23 (w : World) (c1 : w.cell? ⟨1, 22, none⟩ = some (.int .u8 47)) (c2 : w.cell? ⟨1, 23, none⟩ = some (.int .u8 51)) :
    Calls Tryd.prog 53 #[.int .u64 23] w fun e w' => e = .returned (.string (tokWord 23)) ∧ ∃ m, w' = w.drewN m := by
  go_enter Tryd.func53, Tryd.ntmps53
  go_wp2_with fail
  go_quiet (fail)
  go_wp2_with fail
  go_ret
  exact ⟨rfl, _, rfl⟩
theorem tokS_24 (w : World) (c1 : w.cell? ⟨1, 23, none⟩ = some (.int .u8 51)) (c2 : w.cell? ⟨1, 24, none⟩ = some (.int .u8 55)) :
    Calls Tryd.prog 53 #[.int .u64 24] w fun e w' => e = .returned (.string (tokWord 24)) ∧ ∃ m, w' = w.drewN m := by
  go_enter Tryd.func53, Tryd.ntmps53
  go_wp2_with fail
  go_quiet (fail)
  go_wp2_with fail
  go_ret
  exact ⟨rfl, _, rfl⟩
theorem tokS_25 (w : World) (c1 : w.cell? ⟨1, 24, none⟩ = some (.int .u8 55)) (c2 : w.cell? ⟨1, 25, none⟩ = some (.int .u8 60)) :
    Calls Tryd.prog 53 #[.int .u64 25] w fun e w' => e = .returned (.string (tokWord 25)) ∧ ∃ m, w' = w.drewN m := by
  go_enter Tryd.func53, Tryd.ntmps53
  go_wp2_with fail
  go_quiet (fail)
  go_wp2_with fail
  go_ret
  exact ⟨rfl, _, rfl⟩
theorem tokS_26 (w : World) (c1 : w.cell? ⟨1, 25, none⟩ = some (.int .u8 60)) (c2 : w.cell? ⟨1, 26, none⟩ = some (.int .u8 68)) :
    Calls Tryd.prog 53 #[.int .u64 26] w fun e w' => e = .returned (.string (tokWord 26)) ∧ ∃ m, w' = w.drewN m := by
  go_enter Tryd.func53, Tryd.ntmps53
  go_wp2_with fail
  go_quiet (fail)
  go_wp2_with fail
  go_ret
  exact ⟨rfl, _, rfl⟩
theorem tokS_27 (w : World) (c1 : w.cell? ⟨1, 26, none⟩ = some (.int .u8 68)) (c2 : w.cell? ⟨1, 27, none⟩ = some (.int .u8 75)) :
    Calls Tryd.prog 53 #[.int .u64 27] w fun e w' => e = .returned (.string (tokWord 27)) ∧ ∃ m, w' = w.drewN m := by
  go_enter Tryd.func53, Tryd.ntmps53
  go_wp2_with fail
  go_quiet (fail)
  go_wp2_with fail
  go_ret
  exact ⟨rfl, _, rfl⟩
theorem tokS_28 (w : World) (c1 : w.cell? ⟨1, 27, none⟩ = some (.int .u8 75)) (c2 : w.cell? ⟨1, 28, none⟩ = some (.int .u8 80)) :
    Calls Tryd.prog 53 #[.int .u64 28] w fun e w' => e = .returned (.string (tokWord 28)) ∧ ∃ m, w' = w.drewN m := by
  go_enter Tryd.func53, Tryd.ntmps53
  go_wp2_with fail
  go_quiet (fail)
  go_wp2_with fail
  go_ret
  exact ⟨rfl, _, rfl⟩
theorem tokS_29 (w : World) (c1 : w.cell? ⟨1, 28, none⟩ = some (.int .u8 80)) (c2 : w.cell? ⟨1, 29, none⟩ = some (.int .u8 84)) :
    Calls Tryd.prog 53 #[.int .u64 29] w fun e w' => e = .returned (.string (tokWord 29)) ∧ ∃ m, w' = w.drewN m := by
  go_enter Tryd.func53, Tryd.ntmps53
  go_wp2_with fail
  go_quiet (fail)
  go_wp2_with fail
  go_ret
  exact ⟨rfl, _, rfl⟩
theorem tokS_30 (w : World) (c1 : w.cell? ⟨1, 29, none⟩ = some (.int .u8 84)) (c2 : w.cell? ⟨1, 30, none⟩ = some (.int .u8 95)) :
    Calls Tryd.prog 53 #[.int .u64 30] w fun e w' => e = .returned (.string (tokWord 30)) ∧ ∃ m, w' = w.drewN m := by
  go_enter Tryd.func53, Tryd.ntmps53
  go_wp2_with fail
  go_quiet (fail)
  go_wp2_with fail
  go_ret
  exact ⟨rfl, _, rfl⟩
theorem tokS_31 (w : World) (c1 : w.cell? ⟨1, 30, none⟩ = some (.int .u8 95)) (c2 : w.cell? ⟨1, 31, none⟩ = some (.int .u8 98)) :
    Calls Tryd.prog 53 #[.int .u64 31] w fun e w' => e = .returned (.string (tokWord 31)) ∧ ∃ m, w' = w.drewN m := by
  go_enter Tryd.func53, Tryd.ntmps53
  go_wp2_with fail
  go_quiet (fail)
  go_wp2_with fail
  go_ret
  exact ⟨rfl, _, rfl⟩
theorem tokS_32 (w : World) (c1 : w.cell? ⟨1, 31, none⟩ = some (.int .u8 98)) (c2 : w.cell? ⟨1, 32, none⟩ = some (.int .u8 102)) :
    Calls Tryd.prog 53 #[.int .u64 32] w fun e w' => e = .returned (.string (tokWord 32)) ∧ ∃ m, w' = w.drewN m := by
  go_enter Tryd.func53, Tryd.ntmps53
  go_wp2_with fail
  go_quiet (fail)
  go_wp2_with fail
  go_ret
  exact ⟨rfl, _, rfl⟩
theorem tokS_33 (w : World) (c1 : w.cell? ⟨1, 32, none⟩ = some (.int .u8 102)) (c2 : w.cell? ⟨1, 33, none⟩ = some (.int .u8 104)) :
    Calls Tryd.prog 53 #[.int .u64 33] w fun e w' => e = .returned (.string (tokWord 33)) ∧ ∃ m, w' = w.drewN m := by
  go_enter Tryd.func53, Tryd.ntmps53
  go_wp2_with fail
  go_quiet (fail)
  go_wp2_with fail
  go_ret
  exact ⟨rfl, _, rfl⟩
theorem tokS_34 (w : World) (c1 : w.cell? ⟨1, 33, none⟩ = some (.int .u8 104)) (c2 : w.cell? ⟨1, 34, none⟩ = some (.int .u8 108)) :
    Calls Tryd.prog 53 #[.int .u64 34] w fun e w' => e = .returned (.string (tokWord 34)) ∧ ∃ m, w' = w.drewN m := by
  go_enter Tryd.func53, Tryd.ntmps53
  go_wp2_with fail
  go_quiet (fail)
  go_wp2_with fail
  go_ret
  exact ⟨rfl, _, rfl⟩
theorem tokS_35 (w : World) (c1 : w.cell? ⟨1, 34, none⟩ = some (.int .u8 108)) (c2 : w.cell? ⟨1, 35, none⟩ = some (.int .u8 110)) :
    Calls Tryd.prog 53 #[.int .u64 35] w fun e w' => e = .returned (.string (tokWord 35)) ∧ ∃ m, w' = w.drewN m := by
  go_enter Tryd.func53, Tryd.ntmps53
  go_wp2_with fail
  go_quiet (fail)
  go_wp2_with fail
  go_ret
  exact ⟨rfl, _, rfl⟩
theorem tokS_36 (w : World) (c1 : w.cell? ⟨1, 35, none⟩ = some (.int .u8 110)) (c2 : w.cell? ⟨1, 36, none⟩ = some (.int .u8 116)) :
    Calls Tryd.prog 53 #[.int .u64 36] w fun e w' => e = .returned (.string (tokWord 36)) ∧ ∃ m, w' = w.drewN m := by
  go_enter Tryd.func53, Tryd.ntmps53
  go_wp2_with fail
  go_quiet (fail)
  go_wp2_with fail
  go_ret
  exact ⟨rfl, _, rfl⟩
theorem tokS_37 (w : World) (c1 : w.cell? ⟨1, 36, none⟩ = some (.int .u8 116)) (c2 : w.cell? ⟨1, 37, none⟩ = some (.int .u8 125)) :
    Calls Tryd.prog 53 #[.int .u64 37] w fun e w' => e = .returned (.string (tokWord 37)) ∧ ∃ m, w' = w.drewN m := by
  go_enter Tryd.func53, Tryd.ntmps53
  go_wp2_with fail
  go_quiet (fail)
  go_wp2_with fail
  go_ret
  exact ⟨rfl, _, rfl⟩
theorem tokS_38 (w : World) (c1 : w.cell? ⟨1, 37, none⟩ = some (.int .u8 125)) (c2 : w.cell? ⟨1, 38, none⟩ = some (.int .u8 128)) :
    Calls Tryd.prog 53 #[.int .u64 38] w fun e w' => e = .returned (.string (tokWord 38)) ∧ ∃ m, w' = w.drewN m := by
  go_enter Tryd.func53, Tryd.ntmps53
  go_wp2_with fail
  go_quiet (fail)
  go_wp2_with fail
  go_ret
  exact ⟨rfl, _, rfl⟩
theorem tokS_39 (w : World) (c1 : w.cell? ⟨1, 38, none⟩ = some (.int .u8 128)) (c2 : w.cell? ⟨1, 39, none⟩ = some (.int .u8 135)) :
    Calls Tryd.prog 53 #[.int .u64 39] w fun e w' => e = .returned (.string (tokWord 39)) ∧ ∃ m, w' = w.drewN m := by
  go_enter Tryd.func53, Tryd.ntmps53
  go_wp2_with fail
  go_quiet (fail)
  go_wp2_with fail
  go_ret
  exact ⟨rfl, _, rfl⟩
theorem tokS_40 (w : World) (c1 : w.cell? ⟨1, 39, none⟩ = some (.int .u8 135)) (c2 : w.cell? ⟨1, 40, none⟩ = some (.int .u8 140)) :
    Calls Tryd.prog 53 #[.int .u64 40] w fun e w' => e = .returned (.string (tokWord 40)) ∧ ∃ m, w' = w.drewN m := by
  go_enter Tryd.func53, Tryd.ntmps53
  go_wp2_with fail
  go_quiet (fail)
  go_wp2_with fail
  go_ret
  exact ⟨rfl, _, rfl⟩
theorem tokS_41 (w : World) (c1 : w.cell? ⟨1, 40, none⟩ = some (.int .u8 140)) (c2 : w.cell? ⟨1, 41, none⟩ = some (.int .u8 146)) :
    Calls Tryd.prog 53 #[.int .u64 41] w fun e w' => e = .returned (.string (tokWord 41)) ∧ ∃ m, w' = w.drewN m := by
  go_enter Tryd.func53, Tryd.ntmps53
  go_wp2_with fail
  go_quiet (fail)
  go_wp2_with fail
  go_ret
  exact ⟨rfl, _, rfl⟩
theorem tokS_42 (w : World) (c1 : w.cell? ⟨1, 41, none⟩ = some (.int .u8 146)) (c2 : w.cell? ⟨1, 42, none⟩ = some (.int .u8 152)) :
    Calls Tryd.prog 53 #[.int .u64 42] w fun e w' => e = .returned (.string (tokWord 42)) ∧ ∃ m, w' = w.drewN m := by
  go_enter Tryd.func53, Tryd.ntmps53
  go_wp2_with fail
  go_quiet (fail)
  go_wp2_with fail
  go_ret
  exact ⟨rfl, _, rfl⟩
theorem tokS_43 (w : World) (c1 : w.cell? ⟨1, 42, none⟩ = some (.int .u8 152)) (c2 : w.cell? ⟨1, 43, none⟩ = some (.int .u8 158)) :
    Calls Tryd.prog 53 #[.int .u64 43] w fun e w' => e = .returned (.string (tokWord 43)) ∧ ∃ m, w' = w.drewN m := by
  go_enter Tryd.func53, Tryd.ntmps53
  go_wp2_with fail
  go_quiet (fail)
  go_wp2_with fail
  go_ret
  exact ⟨rfl, _, rfl⟩
theorem tokS_44 (w : World) (c1 : w.cell? ⟨1, 43, none⟩ = some (.int .u8 158)) (c2 : w.cell? ⟨1, 44, none⟩ = some (.int .u8 164)) :
    Calls Tryd.prog 53 #[.int .u64 44] w fun e w' => e = .returned (.string (tokWord 44)) ∧ ∃ m, w' = w.drewN m := by
  go_enter Tryd.func53, Tryd.ntmps53
  go_wp2_with fail
  go_quiet (fail)
  go_wp2_with fail
  go_ret
  exact ⟨rfl, _, rfl⟩
theorem tokS_45 (w : World) (c1 : w.cell? ⟨1, 44, none⟩ = some (.int .u8 164)) (c2 : w.cell? ⟨1, 45, none⟩ = some (.int .u8 168)) :
    Calls Tryd.prog 53 #[.int .u64 45] w fun e w' => e = .returned (.string (tokWord 45)) ∧ ∃ m, w' = w.drewN m := by
  go_enter Tryd.func53, Tryd.ntmps53
  go_wp2_with fail
  go_quiet (fail)
  go_wp2_with fail
  go_ret
  exact ⟨rfl, _, rfl⟩
theorem tokS_46 (w : World) (c1 : w.cell? ⟨1, 45, none⟩ = some (.int .u8 168)) (c2 : w.cell? ⟨1, 46, none⟩ = some (.int .u8 171)) :
    Calls Tryd.prog 53 #[.int .u64 46] w fun e w' => e = .returned (.string (tokWord 46)) ∧ ∃ m, w' = w.drewN m := by
  go_enter Tryd.func53, Tryd.ntmps53
  go_wp2_with fail
  go_quiet (fail)
  go_wp2_with fail
  go_ret
  exact ⟨rfl, _, rfl⟩
theorem tokS_47 (w : World) (c1 : w.cell? ⟨1, 46, none⟩ = some (.int .u8 171)) (c2 : w.cell? ⟨1, 47, none⟩ = some (.int .u8 171)) :
    Calls Tryd.prog 53 #[.int .u64 47] w fun e w' => e = .returned (.string (tokWord 47)) ∧ ∃ m, w' = w.drewN m := by
  go_enter Tryd.func53, Tryd.ntmps53
  go_wp2_with fail
  go_quiet (fail)
  go_wp2_with fail
  go_ret
  exact ⟨rfl, _, rfl⟩
theorem opS_1 (w : World) (c1 : w.cell? ⟨2, 0, none⟩ = some (.int .u8 0)) (c2 : w.cell? ⟨2, 1, none⟩ = some (.int .u8 1)) :
    Calls Tryd.prog 54 #[.int .u64 1] w fun e w' => e = .returned (.string (opWord 1)) ∧ ∃ m, w' = w.drewN m := by
  go_enter Tryd.func54, Tryd.ntmps54
  go_wp2_with fail
  go_quiet (fail)
  go_wp2_with fail
  go_ret
  exact ⟨rfl, _, rfl⟩
theorem opS_2 (w : World) (c1 : w.cell? ⟨2, 1, none⟩ = some (.int .u8 1)) (c2 : w.cell? ⟨2, 2, none⟩ = some (.int .u8 2)) :
    Calls Tryd.prog 54 #[.int .u64 2] w fun e w' => e = .returned (.string (opWord 2)) ∧ ∃ m, w' = w.drewN m := by
  go_enter Tryd.func54, Tryd.ntmps54
  go_wp2_with fail
  go_quiet (fail)
  go_wp2_with fail
  go_ret
  exact ⟨rfl, _, rfl⟩
theorem opS_3 (w : World) (c1 : w.cell? ⟨2, 2, none⟩ = some (.int .u8 2)) (c2 : w.cell? ⟨2, 3, none⟩ = some (.int .u8 4)) :
    Calls Tryd.prog 54 #[.int .u64 3] w fun e w' => e = .returned (.string (opWord 3)) ∧ ∃ m, w' = w.drewN m := by
  go_enter Tryd.func54, Tryd.ntmps54
  go_wp2_with fail
  go_quiet (fail)
  go_wp2_with fail
  go_ret
  exact ⟨rfl, _, rfl⟩
theorem opS_4 (w : World) (c1 : w.cell? ⟨2, 3, none⟩ = some (.int .u8 4)) (c2 : w.cell? ⟨2, 4, none⟩ = some (.int .u8 5)) :
    Calls Tryd.prog 54 #[.int .u64 4] w fun e w' => e = .returned (.string (opWord 4)) ∧ ∃ m, w' = w.drewN m := by
  go_enter Tryd.func54, Tryd.ntmps54
  go_wp2_with fail
  go_quiet (fail)
  go_wp2_with fail
  go_ret
  exact ⟨rfl, _, rfl⟩
theorem opS_5 (w : World) (c1 : w.cell? ⟨2, 4, none⟩ = some (.int .u8 5)) (c2 : w.cell? ⟨2, 5, none⟩ = some (.int .u8 7)) :
    Calls Tryd.prog 54 #[.int .u64 5] w fun e w' => e = .returned (.string (opWord 5)) ∧ ∃ m, w' = w.drewN m := by
  go_enter Tryd.func54, Tryd.ntmps54
  go_wp2_with fail
  go_quiet (fail)
  go_wp2_with fail
  go_ret
  exact ⟨rfl, _, rfl⟩
theorem opS_6 (w : World) (c1 : w.cell? ⟨2, 5, none⟩ = some (.int .u8 7)) (c2 : w.cell? ⟨2, 6, none⟩ = some (.int .u8 9)) :
    Calls Tryd.prog 54 #[.int .u64 6] w fun e w' => e = .returned (.string (opWord 6)) ∧ ∃ m, w' = w.drewN m := by
  go_enter Tryd.func54, Tryd.ntmps54
  go_wp2_with fail
  go_quiet (fail)
  go_wp2_with fail
  go_ret
  exact ⟨rfl, _, rfl⟩
theorem opS_7 (w : World) (c1 : w.cell? ⟨2, 6, none⟩ = some (.int .u8 9)) (c2 : w.cell? ⟨2, 7, none⟩ = some (.int .u8 11)) :
    Calls Tryd.prog 54 #[.int .u64 7] w fun e w' => e = .returned (.string (opWord 7)) ∧ ∃ m, w' = w.drewN m := by
  go_enter Tryd.func54, Tryd.ntmps54
  go_wp2_with fail
  go_quiet (fail)
  go_wp2_with fail
  go_ret
  exact ⟨rfl, _, rfl⟩
theorem opS_8 (w : World) (c1 : w.cell? ⟨2, 7, none⟩ = some (.int .u8 11)) (c2 : w.cell? ⟨2, 8, none⟩ = some (.int .u8 13)) :
    Calls Tryd.prog 54 #[.int .u64 8] w fun e w' => e = .returned (.string (opWord 8)) ∧ ∃ m, w' = w.drewN m := by
  go_enter Tryd.func54, Tryd.ntmps54
  go_wp2_with fail
  go_quiet (fail)
  go_wp2_with fail
  go_ret
  exact ⟨rfl, _, rfl⟩
theorem opS_9 (w : World) (c1 : w.cell? ⟨2, 8, none⟩ = some (.int .u8 13)) (c2 : w.cell? ⟨2, 9, none⟩ = some (.int .u8 14)) :
    Calls Tryd.prog 54 #[.int .u64 9] w fun e w' => e = .returned (.string (opWord 9)) ∧ ∃ m, w' = w.drewN m := by
  go_enter Tryd.func54, Tryd.ntmps54
  go_wp2_with fail
  go_quiet (fail)
  go_wp2_with fail
  go_ret
  exact ⟨rfl, _, rfl⟩
theorem opS_10 (w : World) (c1 : w.cell? ⟨2, 9, none⟩ = some (.int .u8 14)) (c2 : w.cell? ⟨2, 10, none⟩ = some (.int .u8 16)) :
    Calls Tryd.prog 54 #[.int .u64 10] w fun e w' => e = .returned (.string (opWord 10)) ∧ ∃ m, w' = w.drewN m := by
  go_enter Tryd.func54, Tryd.ntmps54
  go_wp2_with fail
  go_quiet (fail)
  go_wp2_with fail
  go_ret
  exact ⟨rfl, _, rfl⟩
theorem opS_11 (w : World) (c1 : w.cell? ⟨2, 10, none⟩ = some (.int .u8 16)) (c2 : w.cell? ⟨2, 11, none⟩ = some (.int .u8 17)) :
    Calls Tryd.prog 54 #[.int .u64 11] w fun e w' => e = .returned (.string (opWord 11)) ∧ ∃ m, w' = w.drewN m := by
  go_enter Tryd.func54, Tryd.ntmps54
  go_wp2_with fail
  go_quiet (fail)
  go_wp2_with fail
  go_ret
  exact ⟨rfl, _, rfl⟩
theorem opS_12 (w : World) (c1 : w.cell? ⟨2, 11, none⟩ = some (.int .u8 17)) (c2 : w.cell? ⟨2, 12, none⟩ = some (.int .u8 19)) :
    Calls Tryd.prog 54 #[.int .u64 12] w fun e w' => e = .returned (.string (opWord 12)) ∧ ∃ m, w' = w.drewN m := by
  go_enter Tryd.func54, Tryd.ntmps54
  go_wp2_with fail
  go_quiet (fail)
  go_wp2_with fail
  go_ret
  exact ⟨rfl, _, rfl⟩
theorem opS_13 (w : World) (c1 : w.cell? ⟨2, 12, none⟩ = some (.int .u8 19)) (c2 : w.cell? ⟨2, 13, none⟩ = some (.int .u8 20)) :
    Calls Tryd.prog 54 #[.int .u64 13] w fun e w' => e = .returned (.string (opWord 13)) ∧ ∃ m, w' = w.drewN m := by
  go_enter Tryd.func54, Tryd.ntmps54
  go_wp2_with fail
  go_quiet (fail)
  go_wp2_with fail
  go_ret
  exact ⟨rfl, _, rfl⟩
theorem opS_14 (w : World) (c1 : w.cell? ⟨2, 13, none⟩ = some (.int .u8 20)) (c2 : w.cell? ⟨2, 14, none⟩ = some (.int .u8 21)) :
    Calls Tryd.prog 54 #[.int .u64 14] w fun e w' => e = .returned (.string (opWord 14)) ∧ ∃ m, w' = w.drewN m := by
  go_enter Tryd.func54, Tryd.ntmps54
  go_wp2_with fail
  go_quiet (fail)
  go_wp2_with fail
  go_ret
  exact ⟨rfl, _, rfl⟩
theorem opS_15 (w : World) (c1 : w.cell? ⟨2, 14, none⟩ = some (.int .u8 21)) (c2 : w.cell? ⟨2, 15, none⟩ = some (.int .u8 22)) :
    Calls Tryd.prog 54 #[.int .u64 15] w fun e w' => e = .returned (.string (opWord 15)) ∧ ∃ m, w' = w.drewN m := by
  go_enter Tryd.func54, Tryd.ntmps54
  go_wp2_with fail
  go_quiet (fail)
  go_wp2_with fail
  go_ret
  exact ⟨rfl, _, rfl⟩
theorem opS_16 (w : World) (c1 : w.cell? ⟨2, 15, none⟩ = some (.int .u8 22)) (c2 : w.cell? ⟨2, 16, none⟩ = some (.int .u8 23)) :
    Calls Tryd.prog 54 #[.int .u64 16] w fun e w' => e = .returned (.string (opWord 16)) ∧ ∃ m, w' = w.drewN m := by
  go_enter Tryd.func54, Tryd.ntmps54
  go_wp2_with fail
  go_quiet (fail)
  go_wp2_with fail
  go_ret
  exact ⟨rfl, _, rfl⟩
theorem opS_17 (w : World) (c1 : w.cell? ⟨2, 16, none⟩ = some (.int .u8 23)) (c2 : w.cell? ⟨2, 17, none⟩ = some (.int .u8 24)) :
    Calls Tryd.prog 54 #[.int .u64 17] w fun e w' => e = .returned (.string (opWord 17)) ∧ ∃ m, w' = w.drewN m := by
  go_enter Tryd.func54, Tryd.ntmps54
  go_wp2_with fail
  go_quiet (fail)
  go_wp2_with fail
  go_ret
  exact ⟨rfl, _, rfl⟩
theorem opS_18 (w : World) (c1 : w.cell? ⟨2, 17, none⟩ = some (.int .u8 24)) (c2 : w.cell? ⟨2, 18, none⟩ = some (.int .u8 25)) :
    Calls Tryd.prog 54 #[.int .u64 18] w fun e w' => e = .returned (.string (opWord 18)) ∧ ∃ m, w' = w.drewN m := by
  go_enter Tryd.func54, Tryd.ntmps54
  go_wp2_with fail
  go_quiet (fail)
  go_wp2_with fail
  go_ret
  exact ⟨rfl, _, rfl⟩
theorem opS_19 (w : World) (c1 : w.cell? ⟨2, 18, none⟩ = some (.int .u8 25)) (c2 : w.cell? ⟨2, 19, none⟩ = some (.int .u8 26)) :
    Calls Tryd.prog 54 #[.int .u64 19] w fun e w' => e = .returned (.string (opWord 19)) ∧ ∃ m, w' = w.drewN m := by
  go_enter Tryd.func54, Tryd.ntmps54
  go_wp2_with fail
  go_quiet (fail)
  go_wp2_with fail
  go_ret
  exact ⟨rfl, _, rfl⟩
theorem opS_20 (w : World) (c1 : w.cell? ⟨2, 19, none⟩ = some (.int .u8 26)) (c2 : w.cell? ⟨2, 20, none⟩ = some (.int .u8 27)) :
    Calls Tryd.prog 54 #[.int .u64 20] w fun e w' => e = .returned (.string (opWord 20)) ∧ ∃ m, w' = w.drewN m := by
  go_enter Tryd.func54, Tryd.ntmps54
  go_wp2_with fail
  go_quiet (fail)
  go_wp2_with fail
  go_ret
  exact ⟨rfl, _, rfl⟩
theorem opS_21 (w : World) (c1 : w.cell? ⟨2, 20, none⟩ = some (.int .u8 27)) (c2 : w.cell? ⟨2, 21, none⟩ = some (.int .u8 29)) :
    Calls Tryd.prog 54 #[.int .u64 21] w fun e w' => e = .returned (.string (opWord 21)) ∧ ∃ m, w' = w.drewN m := by
  go_enter Tryd.func54, Tryd.ntmps54
  go_wp2_with fail
  go_quiet (fail)
  go_wp2_with fail
  go_ret
  exact ⟨rfl, _, rfl⟩
theorem opS_22 (w : World) (c1 : w.cell? ⟨2, 21, none⟩ = some (.int .u8 29)) (c2 : w.cell? ⟨2, 22, none⟩ = some (.int .u8 31)) :
    Calls Tryd.prog 54 #[.int .u64 22] w fun e w' => e = .returned (.string (opWord 22)) ∧ ∃ m, w' = w.drewN m := by
  go_enter Tryd.func54, Tryd.ntmps54
  go_wp2_with fail
  go_quiet (fail)
  go_wp2_with fail
  go_ret
  exact ⟨rfl, _, rfl⟩
theorem opS_23 (w : World) (c1 : w.cell? ⟨2, 22, none⟩ = some (.int .u8 31)) (c2 : w.cell? ⟨2, 23, none⟩ = some (.int .u8 33)) :
    Calls Tryd.prog 54 #[.int .u64 23] w fun e w' => e = .returned (.string (opWord 23)) ∧ ∃ m, w' = w.drewN m := by
  go_enter Tryd.func54, Tryd.ntmps54
  go_wp2_with fail
  go_quiet (fail)
  go_wp2_with fail
  go_ret
  exact ⟨rfl, _, rfl⟩
theorem tokS_all (w : World) (h : ∀ i, i < 48 → w.cell? ⟨1, i, none⟩ = some (.int .u8 ([0, 3, 7, 14, 16, 19, 23, 24, 26, 28, 29, 30, 31, 32, 33, 34, 35, 36, 37, 38, 39, 42, 47, 51, 55, 60, 68, 75, 80, 84, 95, 98, 102, 104, 108, 110, 116, 125, 128, 135, 140, 146, 152, 158, 164, 168, 171, 171].getD i 0))) (t : Nat) (h1 : 1 ≤ t) (h2 : t ≤ 47) :
    Calls Tryd.prog 53 #[.int .u64 t] w fun e w' => e = .returned (.string (tokWord t)) ∧ ∃ m, w' = w.drewN m := by
  match t, h1, h2 with
  | 1, _, _ => exact tokS_1 w (h 0 (by decide)) (h 1 (by decide))
  | 2, _, _ => exact tokS_2 w (h 1 (by decide)) (h 2 (by decide))
  | 3, _, _ => exact tokS_3 w (h 2 (by decide)) (h 3 (by decide))
  | 4, _, _ => exact tokS_4 w (h 3 (by decide)) (h 4 (by decide))
  | 5, _, _ => exact tokS_5 w (h 4 (by decide)) (h 5 (by decide))
  | 6, _, _ => exact tokS_6 w (h 5 (by decide)) (h 6 (by decide))
  | 7, _, _ => exact tokS_7 w (h 6 (by decide)) (h 7 (by decide))
  | 8, _, _ => exact tokS_8 w (h 7 (by decide)) (h 8 (by decide))
  | 9, _, _ => exact tokS_9 w (h 8 (by decide)) (h 9 (by decide))
  | 10, _, _ => exact tokS_10 w (h 9 (by decide)) (h 10 (by decide))
  | 11, _, _ => exact tokS_11 w (h 10 (by decide)) (h 11 (by decide))
  | 12, _, _ => exact tokS_12 w (h 11 (by decide)) (h 12 (by decide))
  | 13, _, _ => exact tokS_13 w (h 12 (by decide)) (h 13 (by decide))
  | 14, _, _ => exact tokS_14 w (h 13 (by decide)) (h 14 (by decide))
  | 15, _, _ => exact tokS_15 w (h 14 (by decide)) (h 15 (by decide))
  | 16, _, _ => exact tokS_16 w (h 15 (by decide)) (h 16 (by decide))
  | 17, _, _ => exact tokS_17 w (h 16 (by decide)) (h 17 (by decide))
  | 18, _, _ => exact tokS_18 w (h 17 (by decide)) (h 18 (by decide))
  | 19, _, _ => exact tokS_19 w (h 18 (by decide)) (h 19 (by decide))
  | 20, _, _ => exact tokS_20 w (h 19 (by decide)) (h 20 (by decide))
  | 21, _, _ => exact tokS_21 w (h 20 (by decide)) (h 21 (by decide))
  | 22, _, _ => exact tokS_22 w (h 21 (by decide)) (h 22 (by decide))
  | 23, _, _ => exact tokS_23 w (h 22 (by decide)) (h 23 (by decide))
  | 24, _, _ => exact tokS_24 w (h 23 (by decide)) (h 24 (by decide))
  | 25, _, _ => exact tokS_25 w (h 24 (by decide)) (h 25 (by decide))
  | 26, _, _ => exact tokS_26 w (h 25 (by decide)) (h 26 (by decide))
  | 27, _, _ => exact tokS_27 w (h 26 (by decide)) (h 27 (by decide))
  | 28, _, _ => exact tokS_28 w (h 27 (by decide)) (h 28 (by decide))
  | 29, _, _ => exact tokS_29 w (h 28 (by decide)) (h 29 (by decide))
  | 30, _, _ => exact tokS_30 w (h 29 (by decide)) (h 30 (by decide))
  | 31, _, _ => exact tokS_31 w (h 30 (by decide)) (h 31 (by decide))
  | 32, _, _ => exact tokS_32 w (h 31 (by decide)) (h 32 (by decide))
  | 33, _, _ => exact tokS_33 w (h 32 (by decide)) (h 33 (by decide))
  | 34, _, _ => exact tokS_34 w (h 33 (by decide)) (h 34 (by decide))
  | 35, _, _ => exact tokS_35 w (h 34 (by decide)) (h 35 (by decide))
  | 36, _, _ => exact tokS_36 w (h 35 (by decide)) (h 36 (by decide))
  | 37, _, _ => exact tokS_37 w (h 36 (by decide)) (h 37 (by decide))
  | 38, _, _ => exact tokS_38 w (h 37 (by decide)) (h 38 (by decide))
  | 39, _, _ => exact tokS_39 w (h 38 (by decide)) (h 39 (by decide))
  | 40, _, _ => exact tokS_40 w (h 39 (by decide)) (h 40 (by decide))
  | 41, _, _ => exact tokS_41 w (h 40 (by decide)) (h 41 (by decide))
  | 42, _, _ => exact tokS_42 w (h 41 (by decide)) (h 42 (by decide))
  | 43, _, _ => exact tokS_43 w (h 42 (by decide)) (h 43 (by decide))
  | 44, _, _ => exact tokS_44 w (h 43 (by decide)) (h 44 (by decide))
  | 45, _, _ => exact tokS_45 w (h 44 (by decide)) (h 45 (by decide))
  | 46, _, _ => exact tokS_46 w (h 45 (by decide)) (h 46 (by decide))
  | 47, _, _ => exact tokS_47 w (h 46 (by decide)) (h 47 (by decide))
  | n + 48, _, h2 => exact absurd h2 (by omega)
theorem opS_all (w : World) (h : ∀ i, i < 24 → w.cell? ⟨2, i, none⟩ = some (.int .u8 ([0, 1, 2, 4, 5, 7, 9, 11, 13, 14, 16, 17, 19, 20, 21, 22, 23, 24, 25, 26, 27, 29, 31, 33].getD i 0))) (t : Nat) (h1 : 1 ≤ t) (h2 : t ≤ 23) :
    Calls Tryd.prog 54 #[.int .u64 t] w fun e w' => e = .returned (.string (opWord t)) ∧ ∃ m, w' = w.drewN m := by
  match t, h1, h2 with
  | 1, _, _ => exact opS_1 w (h 0 (by decide)) (h 1 (by decide))
  | 2, _, _ => exact opS_2 w (h 1 (by decide)) (h 2 (by decide))
  | 3, _, _ => exact opS_3 w (h 2 (by decide)) (h 3 (by decide))
  | 4, _, _ => exact opS_4 w (h 3 (by decide)) (h 4 (by decide))
  | 5, _, _ => exact opS_5 w (h 4 (by decide)) (h 5 (by decide))
  | 6, _, _ => exact opS_6 w (h 5 (by decide)) (h 6 (by decide))
  | 7, _, _ => exact opS_7 w (h 6 (by decide)) (h 7 (by decide))
  | 8, _, _ => exact opS_8 w (h 7 (by decide)) (h 8 (by decide))
  | 9, _, _ => exact opS_9 w (h 8 (by decide)) (h 9 (by decide))
  | 10, _, _ => exact opS_10 w (h 9 (by decide)) (h 10 (by decide))
  | 11, _, _ => exact opS_11 w (h 10 (by decide)) (h 11 (by decide))
  | 12, _, _ => exact opS_12 w (h 11 (by decide)) (h 12 (by decide))
  | 13, _, _ => exact opS_13 w (h 12 (by decide)) (h 13 (by decide))
  | 14, _, _ => exact opS_14 w (h 13 (by decide)) (h 14 (by decide))
  | 15, _, _ => exact opS_15 w (h 14 (by decide)) (h 15 (by decide))
  | 16, _, _ => exact opS_16 w (h 15 (by decide)) (h 16 (by decide))
  | 17, _, _ => exact opS_17 w (h 16 (by decide)) (h 17 (by decide))
  | 18, _, _ => exact opS_18 w (h 17 (by decide)) (h 18 (by decide))
  | 19, _, _ => exact opS_19 w (h 18 (by decide)) (h 19 (by decide))
  | 20, _, _ => exact opS_20 w (h 19 (by decide)) (h 20 (by decide))
  | 21, _, _ => exact opS_21 w (h 20 (by decide)) (h 21 (by decide))
  | 22, _, _ => exact opS_22 w (h 21 (by decide)) (h 22 (by decide))
  | 23, _, _ => exact opS_23 w (h 22 (by decide)) (h 23 (by decide))
  | n + 24, _, h2 => exact absurd h2 (by omega)
end Sc
end Go.Proofs.YtogkcphobhhbdaaDoor

/- Operator.String at 0; the scanner's beginning. -/
namespace Go.Proofs.YtogkcphobhhbdaaDoor
open Go Go.RowKit Go.Lib
namespace Sc
set_option maxRecDepth 100000
def opZero : ByteArray := ByteArray.mk #[79, 112, 101, 114, 97, 116, 111, 114, 40, 48, 41]
theorem fmt_zero (w : World) : Calls Tryd.prog 85 #[.int .i64 0, .int .i64 10] w fun e w' => e = .returned (.string ⟨#[48]⟩) ∧ w' = w :=
  (Tryd.strconv_FormatInt_10_small 0 (by decide) w).mono (fun e w' h => ⟨h.1.trans (by simp [Lib.decDigits]), h.2⟩)
theorem opS_0 (w : World) : Calls Tryd.prog 54 #[.int .u64 0] w fun e w' => e = .returned (.string opZero) ∧ ∃ m, w' = w.drewN m := by
  go_enter Tryd.func54, Tryd.ntmps54
  go_wp2_with (go_at_call 85; refine (fmt_zero _).mono ?_; rintro e w' ⟨rfl, rfl⟩)
  go_ret
  exact ⟨rfl, 0, rfl⟩
/-- The scanner's block as it is made. -/
def zeroCells : Array Value := #[.nilIface, .nilFunc, .slice none 0 0, .nilIface, .int .i64 0, .int .i64 0, .int .i64 0, .int .u64 0, .int .u64 0, .int .i32 0, .int .i64 0,
  .int .u64 0, .bool false, .int .u64 0, .int .u64 0, .bool false, .int .u64 0, .string ByteArray.empty, .bool false, .int .u8 0, .int .u64 0, .int .i64 0]
end Sc
end Go.Proofs.YtogkcphobhhbdaaDoor

/- The scanner's beginning: source.init walked. -/
namespace Go.Proofs.YtogkcphobhhbdaaDoor
open Go Go.RowKit Go.Lib
namespace Sc
set_option maxRecDepth 100000
theorem run_store_func {P : Program} (w : World) (a : Addr) (f : Fn) (x y : Array Value) (m : Mode) : (store a (.func f x y) m).run P w = stored P w a (.func f x y) m := run_store P w a _ m rfl
theorem eq_nilSlice (w : World) : (binOp .eql 45 (.slice none 0 0) (.slice none 0 0)).run Tryd.prog w = .ok (.bool true) w := by
  have h : ∀ d, (Op.equalIn (d + 1) 45 (.slice none 0 0) (.slice none 0 0)).run Tryd.prog w = .ok true w := fun d => by
    rw [Op.equalIn]
    simp [go_sem]
  have := h 9999
  simp only [binOp, Op.equal, Op.maxDepth, Sem.run_bind]
  rw [this]; rfl
theorem nsz_walk (w : World) : Calls Tryd.prog 91 #[.int .i64 0] w fun e w' => e = .returned (.int .i64 4096) ∧ w' = w := by
  go_enter Tryd.func91, Tryd.ntmps91
  go_wp2
  go_ret
  exact ⟨rfl, rfl⟩
def zbuf : Array Value := madeCells #[.int .u8 0] 4096
theorem info_u8 : (Tryd.prog.info? 5).map (fun i => (i.zero, i.size, i.bytes)) = some (some (.int .u8 0), 1, 1) := by kernel_rfl
theorem mk_buf (w : World) : (Instr.makeSlice 45 (.int .i64 4096) (.int .i64 4096)).run Tryd.prog w = .ok (.slice (some ⟨w.heap.size, 0, none⟩) 4096 4096) (w.alloc (.cells zbuf 5)) := by
  obtain ⟨i0, hi, hz0, hz1, hz2⟩ := info_parts info_u8
  have := run_make w 45 5 i0 _ Tryd.underlying45 hi hz0 .i64 .i64 4096 4096 (by decide) (by decide) (by rw [hz2]; decide) (by decide)
  rw [this, hz1]
  rfl
/-- What source.init writes. -/
def srcW (w : World) (s rd e : Nat) : World :=
  ((((((((((w.setCell ⟨s, 0, none⟩ (.iface 91 (.pointer (some ⟨rd, 0, none⟩)))).setCell ⟨s, 1, none⟩ (.func (.func 51) #[] #[.pointer (some ⟨e, 0, none⟩)])).setCell ⟨s, 2, none⟩ (.slice (some ⟨w.heap.size, 0, none⟩) 4096 4096)).setCell
    ⟨s, 3, none⟩ .nilIface).setCell ⟨s, 4, none⟩ (.int .i64 (-1))).setCell ⟨s, 5, none⟩ (.int .i64 0)).setCell ⟨s, 6, none⟩ (.int .i64 0)).setCell ⟨s, 7, none⟩ (.int .u64 0)).setCell ⟨s, 8, none⟩ (.int .u64 0)).setCell ⟨s, 9, none⟩ (.int .i32 32)).setCell ⟨s, 10, none⟩ (.int .i64 0)
def initW (w : World) (s rd e : Nat) : World := (srcW w s rd e).alloc (.cells (zbuf.setIfInBounds 0 (.int .u8 128)) 5)
theorem srcInit_walk (w : World) (s rd e : Nat) (hs : w.heap[s]? = some (.cells zeroCells 89 (0, 0))) :
    Calls Tryd.prog 68 #[.pointer (some ⟨s, 0, none⟩), .iface 91 (.pointer (some ⟨rd, 0, none⟩)), .func (.func 51) #[] #[.pointer (some ⟨e, 0, none⟩)]] w fun en w' => en = .returned (.tuple #[]) ∧ w' = initW w s rd e := by
  have c0 := cell_of_block hs (o := 0) (v := .nilIface) rfl
  have c1 := cell_of_block hs (o := 1) (v := .nilFunc) rfl
  have c2 := cell_of_block hs (o := 2) (v := .slice none 0 0) rfl
  have c3 := cell_of_block hs (o := 3) (v := .nilIface) rfl
  have c4 := cell_of_block hs (o := 4) (v := .int .i64 0) rfl
  have c5 := cell_of_block hs (o := 5) (v := .int .i64 0) rfl
  have c6 := cell_of_block hs (o := 6) (v := .int .i64 0) rfl
  have c7 := cell_of_block hs (o := 7) (v := .int .u64 0) rfl
  have c8 := cell_of_block hs (o := 8) (v := .int .u64 0) rfl
  have c9 := cell_of_block hs (o := 9) (v := .int .i32 0) rfl
  have c10 := cell_of_block hs (o := 10) (v := .int .i64 0) rfl
  have fr : ∀ o, w.frozen? ⟨s, o, none⟩ = false := fun o => free_of_block hs
  have hlt : s < w.heap.size := (Array.getElem?_eq_some_iff.1 hs).1
  have z0 : zbuf[0]? = some (.int .u8 0) := by simp [zbuf, madeCells]
  clear hs
  go_enter Tryd.func68, Tryd.ntmps68
  go_wp2_with (first | (rw [run_store_func]; go_simp) | (rw [eq_nilSlice]; go_simp) | (refine (nsz_walk _).mono ?_; rintro e w' ⟨rfl, rfl⟩) | (rw [mk_buf]; go_simp))
  go_end0
  exact ⟨rfl, rfl⟩
end Sc
end Go.Proofs.YtogkcphobhhbdaaDoor

/- The scanner's beginning: scanner.init, bytes.NewReader. -/
namespace Go.Proofs.YtogkcphobhhbdaaDoor
open Go Go.RowKit Go.Lib
namespace Sc
set_option maxRecDepth 100000
theorem cell_of_block' {w : World} {b o : Nat} {c : Array Value} {t : TypeId} {f : Nat × Nat} (h : w.heap[b]? = some (.cells c t f)) : w.cell? ⟨b, o, none⟩ = c[o]? := by
  simp [World.cell?, h]
theorem initW_size (w : World) (s rd e : Nat) : (initW w s rd e).heap.size = w.heap.size + 1 := by simp [initW, srcW]
theorem srcW_size (w : World) (s rd e : Nat) : (srcW w s rd e).heap.size = w.heap.size := by simp [srcW]
/-- The block once source.init is through. -/
def srcCells (buf rd e : Nat) : Array Value := #[.iface 91 (.pointer (some ⟨rd, 0, none⟩)), .func (.func 51) #[] #[.pointer (some ⟨e, 0, none⟩)], .slice (some ⟨buf, 0, none⟩) 4096 4096, .nilIface, .int .i64 (-1), .int .i64 0, .int .i64 0, .int .u64 0, .int .u64 0, .int .i32 32, .int .i64 0,
  .int .u64 0, .bool false, .int .u64 0, .int .u64 0, .bool false, .int .u64 0, .string ByteArray.empty, .bool false, .int .u8 0, .int .u64 0, .int .i64 0]
theorem srcW_block {w : World} {s rd e : Nat} (hs : w.heap[s]? = some (.cells zeroCells 89 (0, 0))) : (srcW w s rd e).heap[s]? = some (.cells (srcCells w.heap.size rd e) 89 (0, 0)) := by
  unfold srcW
  refine Eq.trans (block_setCell _ (block_setCell _ (block_setCell _ (block_setCell _ (block_setCell _ (block_setCell _ (block_setCell _ (block_setCell _ (block_setCell _ (block_setCell _ (block_setCell _ hs))))))))))) ?_
  exact congrArg (fun c => some (Obj.cells c 89 (0, 0))) (by kernel_rfl)
theorem srcW_other {w : World} {s rd e k : Nat} (h : k ≠ s) : (srcW w s rd e).heap[k]? = w.heap[k]? := by
  unfold srcW
  repeat rw [Below.heap_setCell _ _ _ _ h]
theorem initW_block {w : World} {s rd e : Nat} (hs : w.heap[s]? = some (.cells zeroCells 89 (0, 0))) : (initW w s rd e).heap[s]? = some (.cells (srcCells w.heap.size rd e) 89 (0, 0)) := by
  have hlt : s < w.heap.size := (Array.getElem?_eq_some_iff.1 hs).1
  unfold initW
  rw [Below.heap_alloc _ _ _ (by rw [srcW_size]; exact hlt)]
  exact srcW_block hs
def iniW (w : World) (s rd e : Nat) (m : Int) : World := ((initW w s rd e).setCell ⟨s, 11, none⟩ (.int .u64 m)).setCell ⟨s, 12, none⟩ (.bool false)
theorem init_walk (w : World) (s rd e : Nat) (m : Int) (hs : w.heap[s]? = some (.cells zeroCells 89 (0, 0))) :
    Calls Tryd.prog 49 #[.pointer (some ⟨s, 0, none⟩), .iface 91 (.pointer (some ⟨rd, 0, none⟩)), .func (.func 51) #[] #[.pointer (some ⟨e, 0, none⟩)], .int .u64 m] w fun en w' => en = .returned (.tuple #[]) ∧ w' = iniW w s rd e m := by
  have hb := initW_block (rd := rd) (e := e) hs
  have c11 := cell_of_block hb (o := 11) (v := .int .u64 0) rfl
  have c12 := cell_of_block hb (o := 12) (v := .bool false) rfl
  have fr : ∀ o, (initW w s rd e).frozen? ⟨s, o, none⟩ = false := fun o => free_of_block hb
  have H := srcInit_walk w s rd e hs
  clear hb hs
  go_enter Tryd.func49, Tryd.ntmps49
  go_wp2_with (go_at_call 68; refine H.mono ?_; rintro en w' ⟨rfl, rfl⟩)
  go_end0
  exact ⟨rfl, rfl⟩
theorem newReader_walk (w : World) (v : Value) (hv : v.oneCell' = true) (hsl : ∃ a n c, v = .slice a n c) :
    Calls Tryd.prog 50 #[v] w fun en w' => en = .returned (.pointer (some ⟨w.heap.size, 0, none⟩)) ∧ w' = w.alloc (.cells #[v, .int .i64 0, .int .i64 (-1)] 107) := by
  obtain ⟨a, n, c, rfl⟩ := hsl
  go_enter Tryd.func50, Tryd.ntmps50
  go_wp2
  go_ret
  exact ⟨rfl, rfl⟩
end Sc
end Go.Proofs.YtogkcphobhhbdaaDoor

/- The scanner at its beginning, as the plain state has it. -/
namespace Go.Proofs.YtogkcphobhhbdaaDoor
open Go Go.RowKit Go.Lib
namespace Sc
set_option maxRecDepth 100000
theorem alloc_at (w : World) (o : Obj) : (w.alloc o).heap[w.heap.size]? = some o := by
  show (w.heap.push o)[w.heap.size]? = _
  simp
def buf0 : ByteArray := ⟨(Array.replicate 4096 (0 : UInt8)).setIfInBounds 0 128⟩
theorem buf0_size : buf0.size = 4096 := by simp [buf0, ByteArray.size]
theorem zbuf_get (i : Nat) (h : i < 4096) : zbuf[i]? = some (.int .u8 0) := by
  simp [zbuf, madeCells, h, Nat.mod_one]
theorem buf0_cells : byteCells buf0 = zbuf.setIfInBounds 0 (.int .u8 128) := by
  apply Array.ext_getElem?
  intro i
  have hz : zbuf.size = 4096 := size_madeCells _ _
  simp only [byteCells, buf0, Array.getElem?_map, Array.getElem?_setIfInBounds, Array.size_replicate, hz]
  by_cases hi : 0 = i
  · subst hi; simp
  · rw [if_neg hi, if_neg hi, Array.getElem?_replicate]
    by_cases h : i < 4096
    · rw [if_pos h, zbuf_get i h]; rfl
    · rw [if_neg h, Array.getElem?_eq_none (by omega)]; rfl
/-- The state ahead of the first reading. -/
def stI (m : Int) : St := ⟨true, 0, 0, none, 0, 0, 32, m, false, 0, 0, false, 0, ByteArray.empty, false, 0, 0, 0, []⟩
def rawI (m : Int) : Raw := ⟨buf0, false, -1, 0, 0, 0, 0, 32, 0, m, false, 0, 0, false, 0, ByteArray.empty, false, 0, 0, 0, 0, []⟩
def adOf (w0 w : World) (sb scap : Nat) (ea : Addr) (src : ByteArray) : Ad := ⟨w0, w.heap.size + 1, w.heap.size + 3, w.heap.size + 2, w.heap.size, sb, w.heap.size + 4, scap, ea, src⟩
/-- The world once scanner.init is through. -/
def w1I (w : World) : World := w.alloc (.cells #[.slice none 0 0] 52)
def w2I (w : World) : World := (w1I w).alloc (.cells zeroCells 89)
def w3I (w : World) (sb n scap : Nat) : World := (w2I w).alloc (.cells #[.slice (some ⟨sb, 0, none⟩) n scap, .int .i64 0, .int .i64 (-1)] 107)
def w4I (w : World) (sb n scap : Nat) (m : Int) : World := iniW (w3I w sb n scap) (w.heap.size + 1) (w.heap.size + 2) w.heap.size m
structure Start (w0 w : World) (sb scap : Nat) (ea : Addr) (src : ByteArray) : Prop where
  glob : Glob w0 ea
  n : src.size ≤ 2048
  below : Below w0.heap.size w0 w
  lo : w0.heap.size ≤ sb
  hi : sb < w.heap.size
  src : ∀ j, j < src.size → w.cell? ⟨sb, j, none⟩ = some (.int .u8 (src.get! j).toNat)
theorem start_ok {w0 w : World} {sb scap : Nat} {ea : Addr} {src : ByteArray} (h : Start w0 w sb scap ea src) : (adOf w0 w sb scap ea src).Ok := by
  have := h.below.size; have := h.lo; have := h.hi
  refine ⟨h.glob, h.n, h.lo, ?_, ?_, ?_, ?_, h.hi, ?_, ?_, ?_, ?_⟩ <;> simp only [adOf] <;> omega
theorem w3I_size (w : World) (sb n scap : Nat) : (w3I w sb n scap).heap.size = w.heap.size + 3 := by simp [w3I, w2I, w1I]
theorem w4I_size (w : World) (sb n scap : Nat) (m : Int) : (w4I w sb n scap m).heap.size = w.heap.size + 4 := by simp [w4I, iniW, initW_size, w3I_size]
theorem w3I_s (w : World) (sb n scap : Nat) : (w3I w sb n scap).heap[w.heap.size + 1]? = some (.cells zeroCells 89 (0, 0)) := by
  unfold w3I
  rw [Below.heap_alloc _ _ _ (by simp [w2I, w1I])]
  have e : (w1I w).heap.size = w.heap.size + 1 := by simp [w1I]
  unfold w2I
  rw [← e]
  exact alloc_at _ _
theorem w3I_old (w : World) (sb n scap k : Nat) (h : k < w.heap.size) : (w3I w sb n scap).heap[k]? = w.heap[k]? := by
  unfold w3I w2I w1I
  rw [Below.heap_alloc _ _ _ (by simp; omega), Below.heap_alloc _ _ _ (by simp; omega), Below.heap_alloc _ _ _ h]
theorem w3I_e (w : World) (sb n scap : Nat) : (w3I w sb n scap).heap[w.heap.size]? = some (.cells #[.slice none 0 0] 52 (0, 0)) := by
  unfold w3I w2I w1I
  rw [Below.heap_alloc _ _ _ (by simp; omega), Below.heap_alloc _ _ _ (by simp)]
  exact alloc_at _ _
theorem w3I_rd (w : World) (sb n scap : Nat) : (w3I w sb n scap).heap[w.heap.size + 2]? = some (.cells #[.slice (some ⟨sb, 0, none⟩) n scap, .int .i64 0, .int .i64 (-1)] 107 (0, 0)) := by
  have e : (w2I w).heap.size = w.heap.size + 2 := by simp [w2I, w1I]
  unfold w3I
  rw [← e]
  exact alloc_at _ _
theorem w4I_other {w : World} {sb n scap k : Nat} {m : Int} (h : k ≠ w.heap.size + 1) (hk : k < w.heap.size + 3) : (w4I w sb n scap m).heap[k]? = (w3I w sb n scap).heap[k]? := by
  unfold w4I iniW initW
  rw [Below.heap_setCell _ _ _ _ h, Below.heap_setCell _ _ _ _ h, Below.heap_alloc _ _ _ (by rw [srcW_size, w3I_size]; exact hk), srcW_other h]
theorem w4I_buf {w : World} {sb n scap : Nat} {m : Int} : (w4I w sb n scap m).heap[w.heap.size + 3]? = some (.cells (byteCells buf0) 5 (0, 0)) := by
  have e : (srcW (w3I w sb n scap) (w.heap.size + 1) (w.heap.size + 2) w.heap.size).heap.size = w.heap.size + 3 := by rw [srcW_size, w3I_size]
  unfold w4I iniW initW
  rw [Below.heap_setCell _ _ _ _ (show w.heap.size + 3 ≠ w.heap.size + 1 by omega), Below.heap_setCell _ _ _ _ (show w.heap.size + 3 ≠ w.heap.size + 1 by omega), ← e, buf0_cells]
  exact alloc_at _ _
theorem w4I_s {w : World} {sb n scap : Nat} {m : Int} {w0 : World} {ea : Addr} {src : ByteArray} : (w4I w sb n scap m).heap[w.heap.size + 1]? = some (.cells (rawCells (adOf w0 w sb scap ea src) (rawI m)) 89 (0, 0)) := by
  have h := initW_block (rd := w.heap.size + 2) (e := w.heap.size) (w3I_s w sb n scap)
  rw [w3I_size] at h
  unfold w4I iniW
  refine Eq.trans (block_setCell _ (block_setCell _ h)) ?_
  exact congrArg (fun c => some (Obj.cells c 89 (0, 0))) (by kernel_rfl)
theorem srcW_below {B s rd e : Nat} {a w : World} (h : Below B a w) (hs : B ≤ s) : Below B a (srcW w s rd e) := by
  unfold srcW
  have step : ∀ {w : World} (o : Nat) (v : Value), Below B a w → Below B a (w.setCell ⟨s, o, none⟩ v) := fun o v h => Below.setCell h hs v
  exact step _ _ (step _ _ (step _ _ (step _ _ (step _ _ (step _ _ (step _ _ (step _ _ (step _ _ (step _ _ (step _ _ h))))))))))
theorem w4I_below {w0 w : World} {sb scap : Nat} {ea : Addr} {src : ByteArray} (h : Start w0 w sb scap ea src) (m : Int) : Below w0.heap.size w0 (w4I w sb src.size scap m) := by
  have hb := h.below.size
  have hs : w0.heap.size ≤ w.heap.size + 1 := by omega
  have b3 : Below w0.heap.size w0 (w3I w sb src.size scap) := Below.alloc (Below.alloc (Below.alloc h.below hb _) (by simp; omega) _) (by simp; omega) _
  have b4 := Below.alloc (srcW_below (rd := w.heap.size + 2) (e := w.heap.size) b3 hs) (by rw [srcW_size, w3I_size]; omega) (.cells (zbuf.setIfInBounds 0 (.int .u8 128)) 5)
  unfold w4I iniW initW
  exact Below.setCell (Below.setCell b4 (show w0.heap.size ≤ (⟨w.heap.size + 1, 11, none⟩ : Addr).block from hs) _) (show w0.heap.size ≤ (⟨w.heap.size + 1, 12, none⟩ : Addr).block from hs) _
theorem start_inv {w0 w : World} {sb scap : Nat} {ea : Addr} {src : ByteArray} (h : Start w0 w sb scap ea src) (m : Int) : SInv (adOf w0 w sb scap ea src) (stI m) (w4I w sb src.size scap m) := by
  have hb := h.below.size; have hlo := h.lo; have hhi := h.hi
  have old : ∀ k, k < w.heap.size → (w4I w sb src.size scap m).heap[k]? = w.heap[k]? := fun k hk => by
    rw [w4I_other (by omega) (by omega), w3I_old _ _ _ _ _ hk]
  refine ⟨rawI m, ⟨start_ok h, ?_, w4I_s, w4I_buf, buf0_size, ?_, ?_, ⟨.slice none 0 0, ?_, ?_⟩, ?_⟩, ⟨⟨0, 0, 0, ?_, rfl, Nat.le_refl _, rfl⟩, fun _ => ⟨rfl, rfl⟩, (fun e => by cases e), Nat.zero_le _, rfl⟩⟩
  · exact w4I_below h m
  · show (w4I w sb src.size scap m).heap[w.heap.size + 2]? = _
    rw [w4I_other (by omega) (by omega), w3I_rd]; rfl
  · intro j hj
    show (w4I w sb src.size scap m).cell? ⟨sb, j, none⟩ = _
    rw [World.cell?_of_block (w := w) (a := ⟨sb, j, none⟩) (old sb hhi)]
    exact h.src j hj
  · show (w4I w sb src.size scap m).heap[w.heap.size]? = _
    rw [w4I_other (by omega) (by omega), w3I_e]
  · exact ⟨rfl, .inl ⟨rfl, rfl⟩⟩
  · show w.heap.size + 4 ≤ _
    rw [w4I_size]; exact Nat.le_refl _
  · exact ⟨rfl, rfl, Nat.le_refl _, rfl, buf0_size, fun j hj => absurd hj (Nat.not_lt_zero _), by kernel_rfl, .inr rfl, (fun e => by cases e), h.n⟩
end Sc
end Go.Proofs.YtogkcphobhhbdaaDoor

/- Plain: the tokens of a text: how they end, how they lie, that no mode changes them. -/
namespace Go.Proofs.YtogkcphobhhbdaaDoor
open Go Go.RowKit Go.Lib
namespace Sc
open Ev
set_option maxRecDepth 100000
/-- The states behind each token, up to the text's end. -/
def toksN (src : ByteArray) : Nat → St → List St
  | 0, _ => []
  | n + 1, st => if (nextF src st).1.tok = 1 then [(nextF src st).1] else (nextF src st).1 :: toksN src n (nextF src st).1
def meas (src : ByteArray) (st : St) : Nat := 2 * left src st + (if st.nlsemi = true then 1 else 0)
def toks (src : ByteArray) (m : Int) : List St := toksN src (meas src (stI m) + 1) (stI m)
/-- What holds ahead of each token. -/
structure Iv (src : ByteArray) (st : St) : Prop where
  sz : src.size ≤ 2048
  pos : Pos0 src st
  kp : Kp st
  op : Rop st
theorem Iv.le {src : ByteArray} {st : St} (h : Iv src st) : st.p ≤ src.size := by
  rcases h.pos with h1 | h1
  · exact h1.n
  · exact h1.2
theorem iv_next {src : ByteArray} {st : St} (h : Iv src st) : Iv src (nextF src st).1 ∧ Rk (nextF src st).1 ∧ TokAt st (nextF src st).1 ∧ ((nextF src st).1.tok ≠ 1 → meas src (nextF src st).1 < meas src st) := by
  obtain ⟨h1, h2, h3, h4⟩ := nextF_sat h.pos h.sz
  have hk := nextF_rk h.pos h.sz h.op
  refine ⟨⟨h.sz, .inl h1, (h2.kp h.sz h.kp).1, hk.2⟩, hk, h4, fun hne => ?_⟩
  have hl := h2.left
  rcases h3 with h3 | h3 | ⟨h5, h6⟩
  · exact absurd h3 hne
  · unfold meas; split <;> split <;> omega
  · unfold meas; rw [if_pos h5, if_neg (by rw [h6]; decide)]; omega
theorem iv_start (src : ByteArray) (m : Int) (hs : src.size ≤ 2048) : Iv src (stI m) :=
  ⟨hs, .inr ⟨rfl, Nat.zero_le _⟩, ⟨by show (0 : Int) ≤ 0; decide, by show (0 : Int) ≤ 0; decide, by show (0 : Int) + (0 : Nat) ≤ (0 : Nat); decide, by show (0 : Int) + 2 * (0 : Nat) ≤ 2 * (0 : Nat); decide⟩, ⟨by show (0 : Int) ≤ 0; decide, by show (0 : Int) ≤ 23; decide⟩⟩
/-- No earlier than a place. -/
def Ord (l c : Int) (s : St) : Prop := l < s.line ∨ (l = s.line ∧ c ≤ s.col)
/-- A token that has a name, and a place of no size. -/
structure Tk (s : St) : Prop where
  rk : Rk s
  l0 : 1 ≤ s.line
  l1 : s.line ≤ 5000
  c0 : 1 ≤ s.col
  c1 : s.col ≤ 5000
inductive Good : Int → Int → List St → Prop
  | last {l c : Int} {s : St} : s.tok = 1 → Ord l c s → Tk s → Good l c [s]
  | more {l c : Int} {s : St} {t : List St} : s.tok ≠ 1 → Ord l c s → Tk s → Good s.line s.col t → Good l c (s :: t)
theorem toksN_good {src : ByteArray} : ∀ (n : Nat) (st : St) (l c : Int), Iv src st → meas src st < n → (l < 1 + st.line0 ∨ (l = 1 + st.line0 ∧ c ≤ 1 + st.col0)) → Good l c (toksN src n st)
  | 0, _, _, _, _, h, _ => absurd h (Nat.not_lt_zero _)
  | n + 1, st, l, c, hI, hm, ho => by
    obtain ⟨hI', hk, ht, hlt⟩ := iv_next hI
    obtain ⟨s0, k0, k9, x1, x2, e1, e2⟩ := ht hI.kp
    have b1 := k0.l0; have b2 := k0.c0; have b7 := k0.c; have b8 := k0.l
    have e1 : (nextF src st).1.line = 1 + s0.line0 := e1.trans (u64_small (by omega) (by omega))
    have e2 : (nextF src st).1.col = 1 + s0.col0 := e2.trans (u64_small (by omega) (by omega))
    have tk : Tk (nextF src st).1 := ⟨hk, by omega, by omega, by omega, by omega⟩
    have od : Ord l c (nextF src st).1 := by unfold Ord; unfold Lx at x1; omega
    rw [toksN]
    by_cases h1 : (nextF src st).1.tok = 1
    · rw [if_pos h1]; exact .last h1 od tk
    · rw [if_neg h1]
      exact .more h1 od tk (toksN_good n _ _ _ hI' (by have := hlt h1; omega) (by rw [e1, e2]; unfold Lx at x2; omega))
theorem toks_good {src : ByteArray} (m : Int) (hs : src.size ≤ 2048) : Good 1 1 (toks src m) :=
  toksN_good _ _ _ _ (iv_start src m hs) (Nat.lt_succ_self _) (.inr ⟨rfl, by show (1 : Int) ≤ 1 + 0; decide⟩)
/-- What holds at each place of the list. -/
theorem Good.ne {l c : Int} {L : List St} (h : Good l c L) : L ≠ [] := by cases h <;> simp
theorem Good.at {l c : Int} {L : List St} (h : Good l c L) : ∀ (i : Nat) (s : St), L[i]? = some s → Tk s ∧ (s.tok = 1 ↔ i + 1 = L.length) ∧ (∀ r, 0 < i → L[i - 1]? = some r → Ord r.line r.col s) := by
  induction h with
  | last h1 h2 h3 =>
    intro i s hi
    cases i with
    | zero => simp only [List.getElem?_cons_zero, Option.some.injEq] at hi; subst hi; exact ⟨h3, by simp [h1], fun r hr => absurd hr (Nat.lt_irrefl _)⟩
    | succ i => simp at hi
  | @more l c s0 t h1 h2 h3 h4 ih =>
    intro i s hi
    cases i with
    | zero =>
      simp only [List.getElem?_cons_zero, Option.some.injEq] at hi; subst hi
      have := h4.ne
      have hl : t.length ≠ 0 := fun e => this (List.eq_nil_of_length_eq_zero e)
      exact ⟨h3, by simp only [List.length_cons]; constructor <;> intro hh <;> omega, fun r hr => absurd hr (Nat.lt_irrefl _)⟩
    | succ i =>
      simp only [List.getElem?_cons_succ] at hi
      obtain ⟨g1, g2, g3⟩ := ih i s hi
      refine ⟨g1, by simp only [List.length_cons]; rw [g2]; omega, fun r _ hr => ?_⟩
      cases i with
      | zero =>
        simp only [Nat.zero_add, Nat.sub_self, List.getElem?_cons_zero, Option.some.injEq] at hr
        subst hr
        cases h4 with
        | last _ ho _ => simp only [List.getElem?_cons_zero, Option.some.injEq] at hi; subst hi; exact ho
        | more _ ho _ _ => simp only [List.getElem?_cons_zero, Option.some.injEq] at hi; subst hi; exact ho
      | succ i =>
        simp only [Nat.add_sub_cancel, List.getElem?_cons_succ] at hr
        exact g3 r (Nat.succ_pos _) (by simpa using hr)
inductive AllSim : List St → List St → Prop
  | nil : AllSim [] []
  | cons {a b : St} {l k : List St} : SimB a b → AllSim l k → AllSim (a :: l) (b :: k)
theorem AllSim.length {L K : List St} (h : AllSim L K) : K.length = L.length := by
  induction h with
  | nil => rfl
  | cons _ _ ih => simp [ih]
theorem AllSim.at {L K : List St} (h : AllSim L K) : ∀ (i : Nat) (a b : St), L[i]? = some a → K[i]? = some b → SimB a b := by
  induction h with
  | nil => intro i a b h1; simp at h1
  | cons hs _ ih =>
    intro i a b h1 h2
    cases i with
    | zero => simp only [List.getElem?_cons_zero, Option.some.injEq] at h1 h2; subst h1; subst h2; exact hs
    | succ i => simp only [List.getElem?_cons_succ] at h1 h2; exact ih i a b h1 h2
/-! What is told is little. -/
theorem toksN_len {src : ByteArray} : ∀ (n : Nat) (st : St), (toksN src n st).length ≤ n
  | 0, _ => Nat.le_refl _
  | n + 1, st => by
    rw [toksN]
    split
    · simp
    · have := toksN_len n (nextF src st).1 (src := src)
      simp; omega
theorem toks_len (src : ByteArray) (m : Int) (hs : src.size ≤ 2048) : (toks src m).length ≤ 9000 := by
  have := toksN_len (src := src) (meas src (stI m) + 1) (stI m)
  have h2 : meas src (stI m) ≤ 8196 := by
    have : left src (stI m) = 2 * (src.size - 0) + 1 := rfl
    unfold meas
    rw [if_neg (show ¬ (stI m).nlsemi = true from fun h => by cases h)]
    omega
  unfold toks
  omega
end Sc
end Go.Proofs.YtogkcphobhhbdaaDoor

/- Plain: how much is told at the most. -/
namespace Go.Proofs.YtogkcphobhhbdaaDoor
open Go Go.RowKit Go.Lib
namespace Sc
open Ev
set_option maxRecDepth 100000
theorem readAt_cnt (src : ByteArray) (line : Int) : ∀ (f : Nat) (fresh : Bool) (p : Nat) (col : Int) (ns : List Note), (readAt src line f fresh p col ns).notes.length + p ≤ ns.length + (readAt src line f fresh p col ns).p
  | 0, _, p, col, ns => by simp [readAt]
  | f + 1, fresh, p, col, ns => by
    have d1 := dec_pos src p
    simp only [readAt]
    by_cases hp : p < src.size
    · simp only [if_pos hp]
      split
      · split
        · have := readAt_cnt src line f false (p + 1) (u64 (col + 1)) (ns ++ [⟨u64 (1 + line), u64 (1 + col), msgNUL⟩])
          simp only [List.length_append, List.length_singleton] at this; omega
        · simp only; omega
      · split
        · have := readAt_cnt src line f false (p + 1) (u64 (col + 1)) (ns ++ [⟨u64 (1 + line), u64 (1 + col), msgUTF⟩])
          simp only [List.length_append, List.length_singleton] at this; omega
        · split
          · have := readAt_cnt src line f false (p + (Utf8.decode src p).2) (u64 (col + (Utf8.decode src p).2)) (if line > 0 ∨ col > 0 then ns ++ [⟨u64 (1 + line), u64 (1 + col), msgBOM⟩] else ns)
            have h2 : (if line > 0 ∨ col > 0 then ns ++ [⟨u64 (1 + line), u64 (1 + col), msgBOM⟩] else ns : List Note).length ≤ ns.length + 1 := by split <;> simp
            omega
          · simp only; omega
    · simp only [if_neg hp]; omega
/-- Not more is told than this, for what was read. -/
def Cn (src : ByteArray) (J : Nat) (a b : St) : Prop := b.notes.length + 5000 * left src b ≤ a.notes.length + 5000 * left src a + J
theorem Cn.refl (src : ByteArray) (a : St) : Cn src 0 a a := Nat.le_refl _
theorem Cn.trans {src : ByteArray} {J K : Nat} {a b c : St} (h : Cn src J a b) (h' : Cn src K b c) : Cn src (J + K) a c := by unfold Cn at *; omega
theorem Cn.weak {src : ByteArray} {J K : Nat} {a b : St} (h : Cn src J a b) (hJ : J ≤ K) : Cn src K a b := by unfold Cn at *; omega
theorem cn_same {src : ByteArray} {a b : St} (e1 : b.notes = a.notes) (e2 : left src b = left src a) : Cn src 0 a b := by unfold Cn; rw [e1, e2]; exact Nat.le_refl _
theorem cn_errAt (src : ByteArray) (l c : Int) (m : ByteArray) (st : St) : Cn src 1 st (errAt l c m st) := by
  unfold Cn
  have : (errAt l c m st).notes.length = st.notes.length + 1 := by simp [errAt]
  have e : left src (errAt l c m st) = left src st := rfl
  rw [this, e]; omega
theorem cn_error (src : ByteArray) (m : ByteArray) (st : St) : Cn src 1 st (error m st) := cn_errAt src _ _ m st
theorem cn_errorAt (src : ByteArray) (o : Int) (m : ByteArray) (st : St) : Cn src 1 st (errorAtF o m st) := cn_errAt src _ _ m st
theorem cn_next1 (src : ByteArray) (st : St) (h : ¬ st.ch = -1) : (nextch src st).notes.length + 5000 * left src (nextch src st) + 5000 ≤ st.notes.length + 5000 * left src st := by
  have hl := nextch_left src st h
  have e1 : (nextch src st).p = (readAt src (nlLine st) (src.size + 1) st.fresh st.p (nlCol st) st.notes).p := rfl
  have e2 : (nextch src st).notes = (readAt src (nlLine st) (src.size + 1) st.fresh st.p (nlCol st) st.notes).notes := rfl
  have hc := readAt_cnt src (nlLine st) (src.size + 1) st.fresh st.p (nlCol st) st.notes
  rw [← e1, ← e2] at hc
  by_cases hp : st.p < src.size
  · have hr := readAt_on src (nlLine st) src.size st.fresh st.p (nlCol st) st.notes hp
    rw [← e1] at hr
    have : left src (nextch src st) + 2 * ((nextch src st).p - st.p) ≤ left src st := by
      unfold left; rw [if_neg h]; split <;> omega
    omega
  · have hr := readAt_end src (nlLine st) src.size st.fresh st.p (nlCol st) st.notes hp
    have e3 : (nextch src st).notes = st.notes := by rw [e2, hr]
    rw [e3]; omega
theorem cn_next (src : ByteArray) (st : St) : Cn src 0 st (nextch src st) := by
  by_cases h : st.ch = -1
  · have hl := nextch_le src st
    have e1 : (nextch src st).p = (readAt src (nlLine st) (src.size + 1) st.fresh st.p (nlCol st) st.notes).p := rfl
    have e2 : (nextch src st).notes = (readAt src (nlLine st) (src.size + 1) st.fresh st.p (nlCol st) st.notes).notes := rfl
    have hc := readAt_cnt src (nlLine st) (src.size + 1) st.fresh st.p (nlCol st) st.notes
    rw [← e1, ← e2] at hc
    unfold Cn
    by_cases hp : st.p < src.size
    · have hr := readAt_on src (nlLine st) src.size st.fresh st.p (nlCol st) st.notes hp
      rw [← e1] at hr
      have : left src (nextch src st) + ((nextch src st).p - st.p) ≤ left src st := by
        unfold left; rw [if_pos h]; split <;> omega
      omega
    · have hr := readAt_end src (nlLine st) src.size st.fresh st.p (nlCol st) st.notes hp
      have e3 : (nextch src st).notes = st.notes := by rw [e2, hr]
      rw [e3]; omega
  · have := cn_next1 src st h
    unfold Cn; omega
/-- A little debt is paid by one character. -/
theorem cn_pay {src : ByteArray} {J : Nat} {a b : St} (h : Cn src J a b) (hb : ¬ b.ch = -1) (hJ : J ≤ 5000) : Cn src 0 a (nextch src b) := by
  have := cn_next1 src b hb
  unfold Cn at *; omega
theorem cn_pay' {src : ByteArray} {J : Nat} {a b : St} (ha : ¬ a.ch = -1) (h : Cn src J (nextch src a) b) (hJ : J ≤ 5000) : Cn src 0 a b := by
  have := cn_next1 src a ha
  unfold Cn at *; omega
theorem Cn.next {src : ByteArray} {J : Nat} {a b : St} (h : Cn src J a b) : Cn src J a (nextch src b) := h.trans (cn_next src b)
theorem cn_skip (src : ByteArray) (c : Int → Bool) (st : St) : Cn src 0 st (skip src c st) := skip_ind src c (P := fun s => Cn src 0 st s) (fun s h _ => h.next) st (Cn.refl _ _)
theorem cn_stars (src : ByteArray) (st : St) : Cn src 0 st (starsF src st).2 := by
  unfold starsF
  refine runF_sat (body := starsB src) (μ := left src) (fun a => Cn src 0 st a) (P := fun (b : Bool × St) => Cn src 0 st b.2) (fun a ha => ⟨fun h => ⟨fun h2 => ha.next.next, fun _ => ⟨ha.next, nextch_left src a (fun e => by rw [e] at h; cases h)⟩⟩, fun _ => ha⟩) st (Cn.refl _ _)
theorem cn_sc (src : ByteArray) (st : St) : Cn src 0 st (scF src st).2 := by
  unfold scF
  refine runF_sat (body := scB src) (μ := left src) (fun a => Cn src 0 st a) (P := fun (b : Bool × St) => Cn src 0 st b.2) (fun a ha => ?_) st (Cn.refl _ _)
  have on := scB_on src a
  exact ⟨fun h => ⟨fun h2 => ha.trans (cn_stars src a), fun h2 => ⟨(ha.trans (cn_stars src a)).next, (on.1 h).2 h2⟩⟩, fun _ => ha⟩
theorem cn_skipComment (src : ByteArray) (st : St) : Cn src 1 st (skipCommentF src st).2 := by
  unfold skipCommentF
  split
  · exact (cn_sc src st).weak (by decide)
  · exact (cn_sc src st).trans (cn_errorAt _ _ _ _)
theorem cn_pfx (src : ByteArray) : ∀ (rs : List Int) (st : St), Cn src 0 st (pfxF src rs st).2
  | [], st => Cn.refl _ _
  | r :: rs, st => by
    simp only [pfxF]
    split
    · exact (cn_next src st).trans (cn_pfx src rs _)
    · exact Cn.refl _ _
theorem cn_pfxGo {src s : ByteArray} {φ ψ : St → St} {J : Nat} (hφ : ∀ st, Cn src J st (φ st)) (hψ : ∀ st, Cn src J st (ψ st)) (st : St) : Cn src J st (pfxGo src s φ ψ st) := by
  have e : 0 + J = J := Nat.zero_add J
  unfold pfxGo
  split
  · rw [← e]; exact (cn_pfx _ _ _).trans (hψ _)
  · rw [← e]; exact (cn_pfx _ _ _).trans (hφ _)
theorem cn_stop (src : ByteArray) (st : St) : Cn src 0 st (stop st) := cn_same rfl rfl
theorem cn_lcTxt (src : ByteArray) (st : St) : Cn src 1 st (lcTxt src st) := (cn_skip src notLine st).trans (cn_errAt _ _ _ _ _)
theorem cn_lcSkip (src : ByteArray) (st : St) : Cn src 1 st (lcSkip src st) := ((cn_stop src st).trans (cn_skip src notLine _)).weak (by decide)
theorem cn_lineComment (src : ByteArray) (st : St) : Cn src 1 st (lineCommentF src st) := by
  unfold lineCommentF
  split
  · exact cn_lcTxt _ _
  · split
    · exact cn_lcSkip _ _
    · exact cn_pfxGo (cn_lcSkip src) (cn_lcTxt src) st
theorem cn_fcTxt (src : ByteArray) (st : St) : Cn src 2 st (fcTxt src st) := by
  unfold fcTxt
  split
  · exact (cn_skipComment src st).trans (cn_errAt _ _ _ _ _)
  · exact (cn_skipComment src st).weak (by decide)
theorem cn_fcSkip (src : ByteArray) (st : St) : Cn src 2 st (fcSkip src st) := ((cn_stop src st).trans (cn_skipComment src _)).weak (by decide)
theorem cn_fullComment (src : ByteArray) (st : St) : Cn src 2 st (fullCommentF src st) := by
  unfold fullCommentF
  split
  · exact cn_fcTxt _ _
  · split
    · exact cn_fcSkip _ _
    · exact cn_pfxGo (cn_fcSkip src) (cn_fcTxt src) st
/-! Literals -/
theorem cn_escLF (src : ByteArray) (b : Int) (p : St × Int × Int) (hI : escI b p) : Cn src 1 p.1 (escLF src b p).1 := by
  unfold escLF
  refine runF_sat (body := escB src b) (μ := escM) (fun a => escI b a ∧ Cn src 0 p.1 a.1) (P := fun (q : St × Int × Option Bool) => Cn src 1 p.1 q.1) (fun a ha => ?_) p ⟨hI, Cn.refl _ _⟩
  have on := escB_on src b a ha.1
  refine ⟨fun h1 => ⟨fun _ => ha.2.weak (by decide), fun h2 => ⟨fun h3 => ⟨(((on.1 h1).2 h2).1 h3).1, ha.2.trans (cn_error _ _ _)⟩, fun h3 => ?_⟩⟩, fun _ => ha.2.weak (by decide)⟩
  have := ((on.1 h1).2 h2).2 h3
  exact ⟨⟨this.1, ha.2.next⟩, this.2⟩
theorem cn_escTail (src : ByteArray) (b m : Int) (st : St) (r : St × Int × Option Bool) (h : Cn src 1 st r.1) : Cn src 2 st (escTail b m r).2 := by
  unfold escTail
  split
  · exact h.weak (by decide)
  · split
    · exact h.trans (cn_error _ _ _)
    · split
      · exact h.trans (cn_error _ _ _)
      · exact h.weak (by decide)
theorem cn_escape (src : ByteArray) (q : Int) (st : St) : Cn src 2 st (escapeF src q st).2 := by
  unfold escapeF
  split
  · exact (cn_next _ _).weak (by decide)
  · split
    · exact cn_escTail src _ _ _ _ (cn_escLF src 8 (st, 0, 3) ⟨.inl rfl, by show (3 : Int) ≤ 8; decide⟩)
    · split
      · exact cn_escTail src _ _ _ _ ((cn_next src st).trans (cn_escLF src 16 (nextch src st, 0, 2) ⟨.inr rfl, by show (2 : Int) ≤ 8; decide⟩))
      · split
        · exact cn_escTail src _ _ _ _ ((cn_next src st).trans (cn_escLF src 16 (nextch src st, 0, 4) ⟨.inr rfl, by show (4 : Int) ≤ 8; decide⟩))
        · split
          · exact cn_escTail src _ _ _ _ ((cn_next src st).trans (cn_escLF src 16 (nextch src st, 0, 8) ⟨.inr rfl, by show (8 : Int) ≤ 8; decide⟩))
          · split
            · exact (Cn.refl _ _).weak (by decide)
            · exact (cn_error _ _ _).weak (by decide)
theorem cn_rawLF (src : ByteArray) (p : St × Bool) : Cn src 1 p.1 (rawLF src p).1 := by
  unfold rawLF
  refine runF_sat (body := rawB src) (μ := okM src) (fun a => Cn src 0 p.1 a.1) (P := fun (q : St × Bool) => Cn src 1 p.1 q.1) (fun a ha => ?_) p (Cn.refl _ _)
  refine ⟨fun _ => ha.next.weak (by decide), fun h1 => ⟨fun _ => ha.trans (cn_errorAt _ _ _ _), fun h2 => ⟨ha.next, nextch_left src a.1 (ne_neg h2)⟩⟩⟩
theorem cn_strLF (src : ByteArray) (p : St × Bool) : Cn src 1 p.1 (strLF src p).1 := by
  unfold strLF
  refine runF_sat (body := strB src) (μ := okM src) (fun a => Cn src 0 p.1 a.1) (P := fun (q : St × Bool) => Cn src 1 p.1 q.1) (fun a ha => ?_) p (Cn.refl _ _)
  have esc : (a.1.ch == 92) = true → Cn src 0 p.1 (escapeF src 34 (nextch src a.1)).2 ∧ left src (escapeF src 34 (nextch src a.1)).2 < left src a.1 := fun h => by
    have hne : ¬ a.1.ch = -1 := eq_ne (by decide) h
    exact ⟨ha.trans (cn_pay' hne (cn_escape src 34 (nextch src a.1)) (by decide)), Nat.lt_of_le_of_lt (escapeF_on src 34 (nextch src a.1)).left (nextch_left src a.1 hne)⟩
  exact ⟨fun _ => ha.next.weak (by decide), fun _ => ⟨fun h => ⟨fun _ => esc h, fun _ => esc h⟩, fun _ => ⟨fun _ => ha.trans (cn_error _ _ _), fun _ => ⟨fun _ => ha.trans (cn_errorAt _ _ _ _), fun h2 => ⟨ha.next, nextch_left src a.1 (ne_neg h2)⟩⟩⟩⟩⟩
theorem cn_runeLF (src : ByteArray) (p : St × Bool × Int) : Cn src 1 p.1 (runeLF src p).1 := by
  unfold runeLF
  refine runF_sat (body := runeB src) (μ := runeM src) (fun a => Cn src 0 p.1 a.1) (P := fun (q : St × Bool) => Cn src 1 p.1 q.1) (fun a ha => ?_) p (Cn.refl _ _)
  have esc : (a.1.ch == 92) = true → Cn src 0 p.1 (escapeF src 39 (nextch src a.1)).2 ∧ left src (escapeF src 39 (nextch src a.1)).2 < left src a.1 := fun h => by
    have hne : ¬ a.1.ch = -1 := eq_ne (by decide) h
    exact ⟨ha.trans (cn_pay' hne (cn_escape src 39 (nextch src a.1)) (by decide)), Nat.lt_of_le_of_lt (escapeF_on src 39 (nextch src a.1)).left (nextch_left src a.1 hne)⟩
  have n0 : Cn src 1 p.1 (nextch src a.1) := ha.next.weak (by decide)
  have w : Cn src 1 p.1 a.1 := ha.weak (by decide)
  exact ⟨fun _ => ⟨fun _ => ⟨fun _ => (ha.trans (cn_error _ _ _)).next, fun _ => ⟨fun _ => (ha.trans (cn_errorAt _ _ _ _)).next, fun _ => n0⟩⟩, fun _ => n0⟩,
    fun _ => ⟨fun h => ⟨fun _ => esc h, fun _ => esc h⟩, fun _ => ⟨fun _ => ⟨fun _ => ha.trans (cn_error _ _ _), fun _ => w⟩, fun _ => ⟨fun _ => ⟨fun _ => ha.trans (cn_errorAt _ _ _ _), fun _ => w⟩, fun h2 => ⟨ha.next, nextch_left src a.1 (ne_neg h2)⟩⟩⟩⟩⟩
theorem cn_setLit (src : ByteArray) (k : Int) (ok : Bool) (st : St) : Cn src 0 st (setLitF src k ok st) := cn_same rfl rfl
theorem cn_str (src : ByteArray) (st : St) : Cn src 1 st (stdStringF src st) := ((cn_next src st).trans (cn_strLF src (nextch src st, true))).trans (cn_setLit _ _ _ _)
theorem cn_raw (src : ByteArray) (st : St) : Cn src 1 st (rawStringF src st) := ((cn_next src st).trans (cn_rawLF src (nextch src st, true))).trans (cn_setLit _ _ _ _)
theorem cn_rune (src : ByteArray) (st : St) : Cn src 1 st (runeF src st) := ((cn_next src st).trans (cn_runeLF src (nextch src st, true, 0))).trans (cn_setLit _ _ _ _)
/-! Names -/
theorem cn_atId (src : ByteArray) (f : Bool) (st : St) : Cn src 1 st (atIdF f st).2 := by
  unfold atIdF
  split
  · exact (Cn.refl _ _).weak (by decide)
  · split
    · show Cn src 1 st (if f = true then _ else _)
      split
      · exact cn_error _ _ _
      · exact (Cn.refl _ _).weak (by decide)
    · split
      · exact cn_error _ _ _
      · exact (Cn.refl _ _).weak (by decide)
def idCn (src : ByteArray) (st : St) : Step St St → Prop
  | .go a' => Cn src 0 st a'
  | .out q => Cn src 1 st q
theorem idB_cn (src : ByteArray) (a : St) : (idB src a).all (idCn src a) :=
  ⟨fun h => cn_pay (cn_atId src false a) (by rw [atIdF_ch]; exact atIdF_ne h) (by decide), fun _ => cn_atId src false a⟩
theorem cn_idBF (src : ByteArray) (st : St) (h : chOk st) : Cn src 1 st (idBF src st) := by
  unfold idBF
  refine runF_sat (body := idB src) (μ := left src) (fun a => chOk a ∧ Cn src 0 st a) (P := fun q => Cn src 1 st q) (fun a ha => ?_) st ⟨h, Cn.refl _ _⟩
  refine sat_mono (sat_all (idB_on src a ha.1) (idB_cn src a)) (fun s hs => ?_)
  cases s with
  | go a' => exact ⟨⟨hs.1.1, ha.2.trans hs.2⟩, hs.1.2.2⟩
  | out q => exact ha.2.trans hs.2
theorem cn_identEnd (src : ByteArray) (s : St) : Cn src 0 s (identEnd src s) := by
  unfold identEnd
  split <;> exact cn_same rfl rfl
theorem cn_ident {src : ByteArray} {st : St} (h : chOk st) : Cn src 1 st (identF src st) := by
  unfold identF
  split
  · exact ((cn_skip src cId st).trans (cn_idBF src _ (skip_chOk h))).trans (cn_identEnd _ _)
  · exact ((cn_skip src cId st).trans (cn_identEnd _ _)).weak (by decide)
/-! Numbers -/
def dCn {κ : Type} (src : ByteArray) (st : St) : Step (St × κ) (St × κ) → Prop
  | .go a' => Cn src 0 st a'.1
  | .out q => Cn src 0 st q.1
theorem digA_cn (src : ByteArray) (mx : Int) (a : St × Int × Int) : (digA src mx a).all (dCn src a.1) := by
  have n := cn_next src a.1
  have k : (digA1 src mx a).all (dCn src a.1) := ⟨fun _ => n, fun _ => ⟨fun _ => ⟨fun _ => n, fun _ => n⟩, fun _ => n⟩⟩
  exact ⟨fun _ => k, fun _ => ⟨fun _ => k, fun _ => Cn.refl _ _⟩⟩
theorem digN_cn (src : ByteArray) (a : St × Int) : (digN src 58 a).all (dCn src a.1) := by
  have n := cn_next src a.1
  have k : (digN1 src 58 a).all (dCn src a.1) := ⟨fun _ => n, fun _ => ⟨fun _ => trivial, fun _ => n⟩⟩
  exact ⟨fun _ => k, fun _ => ⟨fun _ => k, fun _ => Cn.refl _ _⟩⟩
theorem digB_cn (src : ByteArray) (a : St × Int) : (digB src a).all (dCn src a.1) := by
  have n := cn_next src a.1
  exact ⟨fun _ => ⟨fun _ => n, fun _ => n⟩, fun _ => ⟨fun _ => ⟨fun _ => n, fun _ => n⟩, fun _ => Cn.refl _ _⟩⟩
theorem cn_digits (src : ByteArray) (b : Int) (st : St) (inv : Int) : Cn src 0 st (digitsF src b st inv).1 := by
  unfold digitsF
  split
  · refine runF_sat (body := digA src (IntKind.i32.wrap (IntKind.i64.wrap (48 + b)))) (μ := digAM src) (fun a => Cn src 0 st a.1) (P := fun q => Cn src 0 st q.1) (fun a ha => ?_) (st, 0, inv) (Cn.refl _ _)
    refine sat_mono (sat_all (digA_on src _ a) (digA_cn src _ a)) (fun s hs => ?_)
    cases s with
    | go a' => exact ⟨ha.trans hs.2, hs.1.2⟩
    | out q => exact ha.trans hs.2
  · refine runF_sat (body := digB src) (μ := digNM src) (fun a => Cn src 0 st a.1) (P := fun q => Cn src 0 st q.1) (fun a ha => ?_) (st, 0) (Cn.refl _ _)
    refine sat_mono (sat_all (digB_on src a) (digB_cn src a)) (fun s hs => ?_)
    cases s with
    | go a' => exact ⟨ha.trans hs.2, hs.1.2⟩
    | out q => exact ha.trans hs.2
theorem cn_digN (src : ByteArray) (st : St) : Cn src 0 st (digNF src (st, 0)).1 := by
  unfold digNF
  refine runF_sat (body := digN src 58) (μ := digNM src) (fun a => Cn src 0 st a.1) (P := fun q => Cn src 0 st q.1) (fun a ha => ?_) (st, 0) (Cn.refl _ _)
  refine sat_mono (sat_all (digN_on src a) (digN_cn src a)) (fun s hs => ?_)
  cases s with
  | go a' => exact ⟨ha.trans hs.2, hs.1.2⟩
  | out q => exact ha.trans hs.2
theorem all_mono {α : Type} {P Q : α → Prop} {t : Tree α} (h : t.all P) (hpq : ∀ a, P a → Q a) : t.all Q := by
  induction t with
  | leaf a => exact hpq a h
  | test b t e iht ihe => exact ⟨fun hb => iht (h.1 hb), fun hb => ihe (h.2 hb)⟩
  | req p k ih => exact ih h
  | any t e iht ihe => exact ⟨iht h.1, ihe h.2⟩
  | fail => trivial
theorem all_bind {α β : Type} {P : α → Prop} {Q : β → Prop} {t : Tree α} {f : α → Tree β} (h : t.all P) (hf : ∀ a, P a → (f a).all Q) : (t.bind f).all Q := by
  induction t with
  | leaf a => exact hf a h
  | test b t e iht ihe => exact ⟨fun hb => iht (h.1 hb), fun hb => ihe (h.2 hb)⟩
  | req p k ih => exact ih (show k.all P from h)
  | any t e iht ihe => exact ⟨iht h.1, ihe h.2⟩
  | fail => trivial
theorem n1_cn {src : ByteArray} {base pre d0 : Int} {st : St} {r : St × Int × Int} (h : Cn src 0 st r.1) : (n1T src base pre d0 r).all (fun a => Cn src 1 st a.st) := by
  have e : ∀ m, Cn src 1 st (nextch src (error m r.1)) := fun m => (h.trans (cn_error src m _)).next
  exact ⟨fun _ => ⟨fun _ => e _, fun _ => ⟨fun _ => e _, fun _ => h.next.weak (by decide)⟩⟩, fun _ => h.weak (by decide)⟩
theorem p1F_cn (src : ByteArray) (st : St) : (p1FT src st).all (fun a => Cn src 1 st a.st) := by
  have n1 := cn_next src st
  have n2 := n1.next
  exact ⟨fun _ => ⟨fun _ => n1_cn (n2.trans (cn_digits _ _ _ _)), fun _ => ⟨fun _ => n1_cn (n2.trans (cn_digits _ _ _ _)), fun _ => ⟨fun _ => n1_cn (n2.trans (cn_digits _ _ _ _)), fun _ => n1_cn (n1.trans (cn_digits _ _ _ _))⟩⟩⟩, fun _ => n1_cn (cn_digits _ _ _ _)⟩
theorem p2_cn (src : ByteArray) (s : NumS) : (p2T src s).all (fun a => Cn src 0 s.st a.st) := ⟨fun _ => cn_digits _ _ _ _, fun _ => Cn.refl _ _⟩
theorem p3_cn (src : ByteArray) (s : NumS) : (p3T s).all (fun a => Cn src 1 s.st a.st) := by
  have w : Cn src 1 s.st s.st := (Cn.refl _ _).weak (by decide)
  exact ⟨fun _ => ⟨fun _ => cn_error _ _ _, fun _ => w⟩, fun _ => w⟩
theorem expDig_cn {src : ByteArray} {J : Nat} {st : St} {s : NumS} {x : St} (h : Cn src J st x) : (expDigT src s x).all (fun a => Cn src (J + 1) st a.st) := by
  have d : Cn src J st (digNF src (x, 0)).1 := h.trans (cn_digN src x)
  have w : Cn src (J + 1) st (digNF src (x, 0)).1 := d.weak (Nat.le_succ _)
  exact ⟨fun _ => ⟨fun _ => d.trans (cn_error _ _ _), fun _ => w⟩, fun _ => w⟩
theorem expSign_cn {src : ByteArray} {J : Nat} {st : St} {s : NumS} (h : Cn src J st s.st) : (expSignT src s).all (fun a => Cn src (J + 1) st a.st) :=
  ⟨fun _ => expDig_cn h.next.next, fun _ => ⟨fun _ => expDig_cn h.next.next, fun _ => expDig_cn h.next⟩⟩
theorem expErr_cn (src : ByteArray) (s : NumS) (x : Int) : Cn src 1 s.st (expErr (s, x)).st := by
  unfold expErr
  simp only
  split
  · exact cn_error _ _ _
  · split
    · exact cn_error _ _ _
    · exact (Cn.refl _ _).weak (by decide)
theorem p4_cn (src : ByteArray) (B : Prop) (s : NumS) : (p4T src B s).all (fun a => Cn src 2 s.st a.st) := by
  have a1 : (expSignT src (expErr (s, lowerF s.st.ch))).all (fun a => Cn src 2 s.st a.st) := expSign_cn (expErr_cn src s _)
  have a2 : (expSignT src s).all (fun a => Cn src 2 s.st a.st) := all_mono (expSign_cn (Cn.refl _ _)) (fun a h => h.weak (by decide))
  have w : Cn src 2 s.st s.st := (Cn.refl _ _).weak (by decide)
  exact ⟨fun _ => ⟨fun _ => a1, fun _ => a2⟩, fun _ => ⟨fun _ => ⟨fun _ => a1, fun _ => a2⟩, fun _ => ⟨fun _ => ⟨fun _ => ⟨fun _ => (cn_error _ _ _).weak (by decide), fun _ => w⟩, fun _ => w⟩, fun _ => w⟩⟩⟩
theorem p45_cn (src : ByteArray) (s : NumS) : (p45T src s).all (fun a => Cn src 0 s.st a.st) := ⟨fun _ => cn_next _ _, fun _ => Cn.refl _ _⟩
theorem p5_cn (src : ByteArray) (s : NumS) : (p5T src s).all (fun a => Cn src 1 s.st a.st) := by
  have l := cn_setLit src s.kind s.ok s.st
  have w : Cn src 1 s.st (setLitF src s.kind s.ok s.st) := l.weak (by decide)
  exact ⟨fun _ => ⟨fun _ => ⟨fun _ => l.trans (cn_errorAt _ _ _ _), fun _ => w⟩, fun _ => w⟩, fun _ => w⟩
theorem p6_cn (src : ByteArray) (s : NumS) : (p6T s).all (fun a => Cn src 1 s.st a.st) := by
  have w : Cn src 1 s.st s.st := (Cn.refl _ _).weak (by decide)
  exact ⟨fun _ => ⟨fun _ => ⟨fun _ => cn_errorAt _ _ _ _, fun _ => w⟩, fun _ => w⟩, fun _ => w⟩
theorem numTail_cn {src : ByteArray} {J : Nat} {st : St} {s : NumS} (h : Cn src J st s.st) : (numTail src True Tree.leaf s).all (fun a => Cn src (J + 5) st a.st) :=
  all_bind (p2_cn src s) fun a ha => all_bind (p3_cn src a) fun b hb => all_bind (p4_cn src True b) fun c hc => all_bind (p45_cn src c) fun d hd => all_bind (p5_cn src d) fun e he => all_bind (p6_cn src e) fun f hf => (((((h.trans ha).trans hb).trans hc).trans hd).trans he).trans hf
theorem cn_number {src : ByteArray} {seen : Bool} {st : St} (h : Off src st) (hc : st.ch ≠ 10) : Cn src 6 st (numberF src seen st) := by
  have key : (numTree src True Tree.leaf seen st).all (fun a => Cn src 6 st a.st) := by
    unfold numTree
    split
    · exact all_mono (numTail_cn (J := 0) (Cn.refl _ _)) (fun a h => h.weak (by decide))
    · exact all_bind (p1F_cn src st) fun a ha => numTail_cn ha
  have := (num_get h hc).1 (sat_mono (sat_all (num_sat h hc) key) (fun a h => h.2))
  exact this.trans (cn_same rfl rfl)
/-! A pass -/
def SwC (src : ByteArray) (st : St) : Fin → Prop
  | .done s _ => Cn src 20 st s
  | .redo s => Cn src 20 st s
  | .asg s => Cn src 20 st s
theorem cn_rewind {src : ByteArray} {st : St} (hO : Off src st) (hb : st.b = some (st.p - st.chw)) (hP : Pos src st) (hc : st.ch = 46) : Cn src 0 st (nextch src (rewind src (nextch src (nextch src st)))) := by
  obtain ⟨r1, r2, r3, _⟩ := rewind_at hb hP hc (nextch src (nextch src st)) rfl
  have hw := hP.w; have hn := hP.n; have hsz := hO.sz
  have h1 : st.chw = 1 := by
    have := hP.asc (by rw [hc]; decide)
    have := hP.pos (by rw [hc]; decide)
    omega
  have e : (nextch src (nextch src st)).b.getD 0 = st.p - 1 := by show st.b.getD 0 = _; rw [hb, h1]; rfl
  have cnt : ∀ s : St, s.p ≤ src.size → (nextch src s).notes.length ≤ s.notes.length + 2048 := fun s hs => by
    have h1 := readAt_cnt src (nlLine s) (src.size + 1) s.fresh s.p (nlCol s) s.notes
    have h2 := (nextch_pos (src := src) hs).1.n
    have e1 : (nextch src s).p = (readAt src (nlLine s) (src.size + 1) s.fresh s.p (nlCol s) s.notes).p := rfl
    have e2 : (nextch src s).notes = (readAt src (nlLine s) (src.size + 1) s.fresh s.p (nlCol s) s.notes).notes := rfl
    rw [← e1, ← e2] at h1
    omega
  have c1 := cnt st hn
  have c2 := cnt (nextch src st) (nextch_pos (src := src) hn).1.n
  have hrn : (rewind src (nextch src (nextch src st))).notes.length ≤ (nextch src (nextch src st)).notes.length + 1 := by
    have h1 := readAt_cnt src (nlLine { nextch src (nextch src st) with p := (nextch src (nextch src st)).b.getD 0, col0 := u64 ((nextch src (nextch src st)).col0 - u64 (((nextch src (nextch src st)).p : Int) - ((nextch src (nextch src st)).b.getD 0 : Nat))) }) (src.size + 1) (nextch src (nextch src st)).fresh ((nextch src (nextch src st)).b.getD 0) (nlCol { nextch src (nextch src st) with p := (nextch src (nextch src st)).b.getD 0, col0 := u64 ((nextch src (nextch src st)).col0 - u64 (((nextch src (nextch src st)).p : Int) - ((nextch src (nextch src st)).b.getD 0 : Nat))) }) (nextch src (nextch src st)).notes
    have e2 : (rewind src (nextch src (nextch src st))).notes.length + (nextch src (nextch src st)).b.getD 0 ≤ (nextch src (nextch src st)).notes.length + (rewind src (nextch src (nextch src st))).p := h1
    rw [e, r1] at e2
    omega
  have hl : left src (rewind src (nextch src (nextch src st))) = left src st := by unfold left; rw [r1, r3, hc]
  have := cn_next1 src (rewind src (nextch src (nextch src st))) (by rw [r3]; decide)
  unfold Cn
  omega
theorem sw_satC {src : ByteArray} {nl : Bool} {st : St} (hO : Off src st) (hP : Pos src st) (hbb : st.b = some (st.p - st.chw)) : (swT src nl st).sat (SwC src st) := by
  have hb := hO.b
  have eqv : ∀ {k : Int}, (st.ch == k) = true → st.ch = k := fun h => by simpa using h
  have z : Cn src 0 st st := Cn.refl _ _
  have g1 : Cn src 0 st (nextch src st) := cn_next _ _
  have g2 := g1.next
  have g3 := g2.next
  have up : ∀ {a b : St}, Cn src 0 st a → b.notes = a.notes → left src b = left src a → Cn src 0 st b := fun h e1 e2 => h.trans (cn_same e1 e2)
  have f1 : ∀ {t : Int} {s : St}, Cn src 0 st s → (sw1 t s).sat (SwC src st) := fun h => (up h rfl rfl).weak (by decide)
  have f4 : ∀ {o p : Int} {s : St}, Cn src 0 st s → (sw4 o p s).sat (SwC src st) := fun h => (up h rfl rfl).weak (by decide)
  have fA : ∀ {o p : Int} {s : St}, Cn src 0 st s → (swA o p s).sat (SwC src st) := fun h => (up h rfl rfl).weak (by decide)
  have fl : ∀ {w : ByteArray} {s : St}, Cn src 0 st s → SwC src st (.done (lit w s) []) := fun h => (up h rfl rfl).weak (by decide)
  have num : ∀ k : Int, k ≠ 10 → (st.ch == k) = true → (swNum src false st).sat (SwC src st) := fun k hk h => by
    have hc : st.ch ≠ 10 := fun e => hk ((eqv h).symm.trans e)
    exact ⟨⟨hO, hc⟩, (cn_number hO hc).weak (by decide)⟩
  have sm : Cn src 0 st (semi (nextch src st)) := up g1 rfl rfl
  have on : ∀ o p, Cn src 0 st (nextch src (opr o p (nextch src st))) := fun o p => Cn.next (up g1 rfl rfl)
  have osn : ∀ o p, Cn src 0 st (semi (nextch src (opr o p (nextch src st)))) := fun o p => up (on o p) rfl rfl
  refine tr_sat (tr_sat (fl z) (f1 z)) (tr_sat (fl g1) ?_)
  refine test_sat (num 48 (by decide)) (test_sat (num 49 (by decide)) (test_sat (num 50 (by decide)) (test_sat (num 51 (by decide)) (test_sat (num 52 (by decide)) ?_))))
  refine test_sat (num 53 (by decide)) (test_sat (num 54 (by decide)) (test_sat (num 55 (by decide)) (test_sat (num 56 (by decide)) (test_sat (num 57 (by decide)) ?_))))
  refine tr_sat ⟨hb, (cn_str src st).weak (by decide)⟩ (tr_sat ⟨hb, (cn_raw src st).weak (by decide)⟩ (tr_sat ⟨hb, (cn_rune src st).weak (by decide)⟩ ?_))
  refine tr_sat (f1 g1) (tr_sat (f1 g1) (tr_sat (f1 g1) (tr_sat (f1 g1) (tr_sat (fl g1) (tr_sat (f1 sm) (tr_sat (f1 sm) (tr_sat (f1 sm) ?_)))))))
  refine tr_sat (tr_sat (f1 g2) (f1 g1)) ?_
  refine test_sat (fun h => test_sat (fun h3 => ?_) (test_sat (fun h2 => tr_sat (f1 g3) ⟨hb, f1 (cn_rewind hO hbb hP (eqv h))⟩) (f1 g1))) ?_
  · have o1 := (hO.next (by rw [eqv h]; decide)).1
    have c1 : (nextch src st).ch ≠ 10 := fun e => by rw [e] at h3; exact absurd h3 (by decide)
    exact ⟨⟨o1, c1⟩, (g1.trans (cn_number o1 c1)).weak (by decide)⟩
  have r1 : Cn src 20 st (lineCommentF src (nextch src (nextch src st))) := (g2.trans (cn_lineComment _ _)).weak (by decide)
  have r2 : Cn src 20 st (fullCommentF src (nextch src (nextch src st))) := (g2.trans (cn_fullComment _ _)).weak (by decide)
  have r2l : Cn src 20 st (lit wNewline (fullCommentF src (nextch src (nextch src st)))) := ((g2.trans (cn_fullComment _ _)).trans (cn_same rfl rfl)).weak (by decide)
  refine tr_sat (tr_sat (fA g1) (f1 (osn 13 4))) (tr_sat (tr_sat (fA g1) (f1 (osn 14 4))) (tr_sat (tr_sat (f1 (on 17 5)) (f1 (up g1 rfl rfl))) ?_))
  refine tr_sat (tr_sat ⟨hb, r1⟩ (tr_sat ⟨hb, tr_sat (tr_sat r2l r2) r2⟩ (fA g1))) ?_
  have e21 : Cn src 20 st { nextch src (opr 20 5 (nextch src st)) with op := 21 } := ((on 20 5).trans (cn_same rfl rfl)).weak (by decide)
  refine tr_sat (fA g1) (tr_sat (tr_sat (f4 g2) (tr_sat e21 (fA g1))) (tr_sat (tr_sat (f4 g2) (fA g1)) (tr_sat (fA g1) ?_)))
  refine tr_sat (tr_sat (f4 g2) (tr_sat (fA g2) (tr_sat (f1 g2) (f4 g1)))) (tr_sat (tr_sat (f4 g2) (tr_sat (fA g2) (f4 g1))) (tr_sat (tr_sat (f4 g2) (f1 g1)) (tr_sat (tr_sat (f4 g2) (f4 g1)) (tr_sat (f4 g1) ?_))))
  exact ((cn_error src msgChar st).trans (cn_next _ _)).weak (by decide)
theorem pass_satC {src : ByteArray} {nl : Bool} {st : St} (h : Pos0 src st) (hs : src.size ≤ 2048) : (passT src nl st).sat (fun f => match f with
    | .done s _ => Cn src 40 st s
    | .redo s => Cn src 40 st s
    | .asg s => Cn src 40 st s) := by
  obtain ⟨p1, a1, n1⟩ := blanks_pos (nl := nl) h
  have c1 : Cn src 0 st (skip src (cBlank nl) (stop st)) := (cn_stop src st).trans (cn_skip src _ _)
  have key : ∀ bl : Bool, (hdT src (fun s => Fin.done s []) (swT src nl) (nxSt bl (skip src (cBlank nl) (stop st)))).sat (fun f => match f with
    | .done s _ => Cn src 40 st s
    | .redo s => Cn src 40 st s
    | .asg s => Cn src 40 st s) := fun bl => by
    have c2 : Cn src 0 st (nxSt bl (skip src (cBlank nl) (stop st))) := c1.trans (cn_same rfl rfl)
    have hO := nxSt_off (bl := bl) p1 hs
    have hP := nxSt_pos bl p1
    have hbb : (nxSt bl (skip src (cBlank nl) (stop st))).b = some ((nxSt bl (skip src (cBlank nl) (stop st))).p - (nxSt bl (skip src (cBlank nl) (stop st))).chw) := rfl
    generalize nxSt bl (skip src (cBlank nl) (stop st)) = s at *
    have oI := cn_atId src true s
    have sI := atId_same true s
    have w : ∀ (a : St), Cn src 1 st a → ∀ f, SwC src a f → (match f with
      | .done s _ => Cn src 40 st s
      | .redo s => Cn src 40 st s
      | .asg s => Cn src 40 st s) := fun a ha f hf => by
      cases f with
      | done s bx => exact (ha.trans (show Cn src 20 a s from hf)).weak (by decide)
      | redo s => exact (ha.trans (show Cn src 20 a s from hf)).weak (by decide)
      | asg s => exact (ha.trans (show Cn src 20 a s from hf)).weak (by decide)
    refine ⟨fun _ => ⟨⟨nextch_chOk _ _, hO.b⟩, (c2.next.trans (cn_ident (nextch_chOk _ _))).weak (by decide)⟩, fun _ => ⟨fun _ => ⟨hP.ch, fun _ => ⟨⟨nextch_chOk _ _, by rw [sI.2.2.1]; exact hO.b⟩, ((c2.trans oI).next.trans (cn_ident (nextch_chOk _ _))).weak (by decide)⟩, fun _ => ?_⟩, fun _ => ?_⟩⟩
    · exact sat_mono (sw_satC (atId_off hO) ((atIdF_on src true s).pos hP).1 (by rw [sI.2.2.1, sI.1, sI.2.1]; exact hbb)) (w _ (c2.trans oI))
    · exact sat_mono (sw_satC hO hP hbb) (w _ (c2.weak (by decide)))
  exact key _
/-- What next tells: paid by what was read, but for a little. -/
theorem nextF_cn {src : ByteArray} {st : St} (h : Pos0 src st) (hs : src.size ≤ 2048) : (nextF src st).1.notes.length + 6000 * left src (nextF src st).1 ≤ st.notes.length + 6000 * left src st + 50 := by
  unfold nextF
  refine runF_sat (body := nextB src st.nlsemi) (μ := left src) (fun a => Pos0 src a ∧ left src a ≤ left src st ∧ a.notes.length + 6000 * left src a ≤ st.notes.length + 6000 * left src st) (P := fun r : St × List Value => r.1.notes.length + 6000 * left src r.1 ≤ st.notes.length + 6000 * left src st + 50) (fun a ha => ?_) { st with nlsemi := false } ⟨pos0_nl h false, Nat.le_refl _, Nat.le_refl _⟩
  obtain ⟨h1, h2, h3⟩ := ha
  unfold nextB
  rw [sat_bind]
  refine sat_mono (sat_both (pass_satR h1 hs) (pass_satC h1 hs)) (fun f hf => ?_)
  obtain ⟨hf, hc⟩ := hf
  cases f with
  | done s bx =>
    have hc : Cn src 40 a s := hc
    have hl := hf.2.1.left
    unfold Cn at hc
    show s.notes.length + 6000 * left src s ≤ _
    omega
  | redo s =>
    have hc : Cn src 40 a s := hc
    have hl : left src s < left src a := hf.2.2.1
    unfold Cn at hc
    exact ⟨⟨.inl hf.1, by omega, by omega⟩, hl⟩
  | asg s =>
    have hc : Cn src 40 a s := hc
    have hl := hf.2.1.left
    have c2 : Cn src 0 s (asgF src s) := by
      unfold asgF
      split
      · exact (cn_next src s).trans (cn_same rfl rfl)
      · exact cn_same rfl rfl
    have f2 : left src (asgF src s) ≤ left src s := by
      unfold asgF
      split
      · exact nextch_le src s
      · exact Nat.le_refl _
    unfold Cn at hc c2
    show (asgF src s).notes.length + 6000 * left src (asgF src s) ≤ _
    omega
/-- What is told at the end. -/
def lastN (src : ByteArray) : Nat → St → St
  | 0, st => st
  | n + 1, st => if (nextF src st).1.tok = 1 then (nextF src st).1 else lastN src n (nextF src st).1
def last (src : ByteArray) (m : Int) : St := lastN src (meas src (stI m) + 1) (stI m)
theorem lastN_cn {src : ByteArray} : ∀ (n : Nat) (st : St), Iv src st → meas src st < n → (lastN src n st).notes.length ≤ st.notes.length + 7000 * (meas src st + 1)
  | 0, _, _, h => absurd h (Nat.not_lt_zero _)
  | n + 1, st, hI, hm => by
    obtain ⟨hI', hk, ht, hlt⟩ := iv_next hI
    have hc := nextF_cn hI.pos hI.sz
    have hl := (nextF_sat hI.pos hI.sz).2.1.left
    have ml : 2 * left src st ≤ meas src st := by unfold meas; omega
    have mu : meas src st ≤ 2 * left src st + 1 := by unfold meas; split <;> omega
    have ml' : 2 * left src (nextF src st).1 ≤ meas src (nextF src st).1 := by unfold meas; omega
    have mu' : meas src (nextF src st).1 ≤ 2 * left src (nextF src st).1 + 1 := by unfold meas; split <;> omega
    rw [lastN]
    split
    · omega
    · rename_i hne
      have h2 := hlt hne
      have := lastN_cn n _ hI' (by omega)
      omega
theorem last_cn {src : ByteArray} (m : Int) (hs : src.size ≤ 2048) : (last src m).notes.length ≤ 60000000 := by
  have := lastN_cn (src := src) (meas src (stI m) + 1) (stI m) (iv_start src m hs) (Nat.lt_succ_self _)
  have h2 : meas src (stI m) ≤ 8196 := by
    have : left src (stI m) = 2 * (src.size - 0) + 1 := rfl
    unfold meas
    rw [if_neg (show ¬ (stI m).nlsemi = true from fun h => by cases h)]
    omega
  have h3 : (stI m).notes.length = 0 := rfl
  unfold last
  omega
end Sc
end Go.Proofs.YtogkcphobhhbdaaDoor

/- Plain: the reader stands at a place of the text; characters that follow one another. -/
namespace Go.Proofs.YtogkcphobhhbdaaDoor
open Go Go.RowKit Go.Lib
namespace Sc
open Ev
set_option maxRecDepth 100000
/-- A character stands at p: its number, its bytes; none that is told as a fault. -/
structure ChAt (src : ByteArray) (p : Nat) (r : Int) (w : Nat) : Prop where
  lt : p < src.size
  ch : ((src.get! p).toNat < 128 ∧ (src.get! p).toNat ≠ 0 ∧ r = (src.get! p).toNat ∧ w = 1) ∨
    (¬ (src.get! p).toNat < 128 ∧ ¬ ((Utf8.decode src p).1 = 0xFFFD ∧ (Utf8.decode src p).2 = 1) ∧ (Utf8.decode src p).1 ≠ 0xFEFF ∧ r = (Utf8.decode src p).1 ∧ w = (Utf8.decode src p).2)
theorem ChAt.uniq {src : ByteArray} {p w w' : Nat} {r r' : Int} (h : ChAt src p r w) (h' : ChAt src p r' w') : r = r' ∧ w = w' := by
  rcases h.ch with ⟨a1, a2, a3, a4⟩ | ⟨a1, a2, a3, a4, a5⟩ <;> rcases h'.ch with ⟨b1, b2, b3, b4⟩ | ⟨b1, b2, b3, b4, b5⟩
  · exact ⟨a3.trans b3.symm, a4.trans b4.symm⟩
  · exact absurd a1 b1
  · exact absurd b1 a1
  · exact ⟨a4.trans b4.symm, a5.trans b5.symm⟩
theorem ChAt.w {src : ByteArray} {p w : Nat} {r : Int} (h : ChAt src p r w) : 1 ≤ w ∧ p + w ≤ src.size ∧ 1 ≤ r ∧ r ≤ 1114111 := by
  have hl := h.lt
  rcases h.ch with ⟨a1, a2, a3, a4⟩ | ⟨a1, a2, a3, a4, a5⟩
  · omega
  · have d1 := dec_pos src p
    have d2 := dec_le src p hl
    have d3 := dec_big src p a1
    have d4 := dec_ch src p
    omega
theorem ChAt.byte {src : ByteArray} {p w : Nat} {r : Int} (h : ChAt src p r w) (hr : r < 128) : r = (src.get! p).toNat ∧ w = 1 := by
  rcases h.ch with ⟨a1, a2, a3, a4⟩ | ⟨a1, a2, a3, a4, a5⟩
  · exact ⟨a3, a4⟩
  · have d3 := dec_big src p a1
    omega
theorem chAt_byte {src : ByteArray} {p : Nat} (hp : p < src.size) (h1 : (src.get! p).toNat < 128) (h2 : (src.get! p).toNat ≠ 0) : ChAt src p (src.get! p).toNat 1 := ⟨hp, .inl ⟨h1, h2, rfl, rfl⟩⟩
/-- A character, or the end. -/
def Cln (src : ByteArray) (p : Nat) : Prop := (∃ r w, ChAt src p r w) ∨ p = src.size
/-- The reader stands at p. -/
structure Std (src : ByteArray) (p : Nat) (st : St) : Prop where
  fresh : st.fresh = false
  here : st.p = p + st.chw
  ch : ChAt src p st.ch st.chw ∨ (p = src.size ∧ st.ch = -1 ∧ st.chw = 0)
theorem Std.at {src : ByteArray} {p : Nat} {st : St} (h : Std src p st) (hne : st.ch ≠ -1) : ChAt src p st.ch st.chw := by
  rcases h.ch with h | h
  · exact h
  · exact absurd h.2.1 hne
theorem Std.of {src : ByteArray} {p : Nat} {st : St} (h : Std src p st) {r : Int} {w : Nat} (hc : ChAt src p r w) : st.ch = r ∧ st.chw = w := by
  rcases h.ch with h | h
  · exact h.uniq hc
  · have := hc.lt; omega
theorem Std.end {src : ByteArray} {st : St} (h : Std src src.size st) : st.ch = -1 ∧ st.chw = 0 := by
  rcases h.ch with h | h
  · have := h.lt; omega
  · exact h.2
theorem Std.same {src : ByteArray} {p : Nat} {a b : St} (h : Std src p a) (e1 : b.fresh = a.fresh) (e2 : b.p = a.p) (e3 : b.chw = a.chw) (e4 : b.ch = a.ch) : Std src p b :=
  ⟨e1.trans h.fresh, by rw [e2, e3]; exact h.here, by rw [e3, e4]; exact h.ch⟩
theorem Std.cut {src : ByteArray} {p : Nat} {st : St} (h : Std src p st) : st.p - st.chw = p := by have := h.here; omega
theorem Std.pos {src : ByteArray} {p : Nat} {st : St} (h : Std src p st) : Pos src st := by
  have hh := h.here
  rcases h.ch with hc | ⟨h1, h2, h3⟩
  · obtain ⟨w1, w2, w3, w4⟩ := hc.w
    refine ⟨by omega, by omega, fun _ => w1, by omega, w4, fun hr => Nat.le_of_eq (hc.byte hr).2, fun _ hr => ?_⟩
    obtain ⟨e1, e2⟩ := hc.byte hr
    rw [hh, e2, show p + 1 - 1 = p by omega]; exact e1.symm
  · exact ⟨by omega, by omega, fun hn => absurd h2 hn, by omega, by omega, fun _ => by omega, fun hn => by omega⟩
theorem readAt_cl {src : ByteArray} {line : Int} {f p : Nat} {fresh : Bool} {col : Int} {ns : List Note} (h : Cln src p) : readAt src line (f + 1) fresh p col ns =
    if p < src.size then (if (src.get! p).toNat < 128 then ⟨p + 1, col, (src.get! p).toNat, 1, ns⟩ else ⟨p + (Utf8.decode src p).2, col, (Utf8.decode src p).1, (Utf8.decode src p).2, ns⟩) else ⟨p, col, -1, 0, ns⟩ := by
  rcases h with ⟨r, w, hc⟩ | h
  · have hl := hc.lt
    simp only [readAt, if_pos hl]
    rcases hc.ch with ⟨a1, a2, a3, a4⟩ | ⟨a1, a2, a3, a4, a5⟩
    · rw [if_pos a1, if_pos a1, if_neg (fun h => a2 h.1)]
    · rw [if_neg a1, if_neg a1, if_neg a2, if_neg a3]
  · have hl : ¬ p < src.size := by omega
    simp only [readAt, if_neg hl]
theorem next_of {src : ByteArray} {p : Nat} {st : St} (hp : st.p = p) (hc : Cln src p) : Std src p (nextch src st) ∧ (nextch src st).notes = st.notes := by
  subst hp
  have e : (nextch src st) = st.read (nlLine st) (readAt src (nlLine st) (src.size + 1) st.fresh st.p (nlCol st) st.notes) := rfl
  rw [readAt_cl hc] at e
  by_cases hl : st.p < src.size
  · rw [if_pos hl] at e
    have hc' : ∃ r w, ChAt src st.p r w := by
      rcases hc with h | h
      · exact h
      · omega
    obtain ⟨r, w, hc'⟩ := hc'
    by_cases hb : (src.get! st.p).toNat < 128
    · rw [if_pos hb] at e
      rw [e]
      rcases hc'.ch with ⟨a1, a2, a3, a4⟩ | ⟨a1, a2, a3, a4, a5⟩
      · exact ⟨⟨rfl, rfl, .inl (chAt_byte hl a1 a2)⟩, rfl⟩
      · exact absurd hb a1
    · rw [if_neg hb] at e
      rw [e]
      rcases hc'.ch with ⟨a1, a2, a3, a4⟩ | ⟨a1, a2, a3, a4, a5⟩
      · exact absurd a1 hb
      · exact ⟨⟨rfl, rfl, .inl ⟨hl, .inr ⟨a1, a2, a3, rfl, rfl⟩⟩⟩, rfl⟩
  · rw [if_neg hl] at e
    rw [e]
    have : st.p = src.size := by
      rcases hc with ⟨r, w, h⟩ | h
      · exact absurd h.lt hl
      · exact h
    exact ⟨⟨rfl, rfl, .inr ⟨this, rfl, rfl⟩⟩, rfl⟩
theorem std_next {src : ByteArray} {p : Nat} {st : St} (h : Std src p st) (hc : Cln src (p + st.chw)) : Std src (p + st.chw) (nextch src st) ∧ (nextch src st).notes = st.notes := next_of h.here hc
/-- Characters that follow one another. -/
inductive Cl (src : ByteArray) : Nat → List Int → Nat → Prop
  | nil {p : Nat} : Cl src p [] p
  | cons {p w q : Nat} {r : Int} {cs : List Int} : ChAt src p r w → Cl src (p + w) cs q → Cl src p (r :: cs) q
theorem Cl.le {src : ByteArray} {p q : Nat} {cs : List Int} (h : Cl src p cs q) : p + cs.length ≤ q := by
  induction h with
  | nil => simp
  | cons h1 h2 ih => have := h1.w.1; simp only [List.length_cons]; omega
theorem Cl.cln {src : ByteArray} {p q : Nat} {cs : List Int} (h : Cl src p cs q) (hq : Cln src q) : Cln src p := by
  cases h with
  | nil => exact hq
  | cons h1 h2 => exact .inl ⟨_, _, h1⟩
/-- On, and nothing told. -/
structure Sil (src : ByteArray) (a b : St) : Prop where
  on : On src a b
  notes : b.notes = a.notes
theorem Sil.refl (src : ByteArray) (a : St) : Sil src a a := ⟨On.refl _ _, rfl⟩
theorem Sil.trans {src : ByteArray} {a b c : St} (h : Sil src a b) (h' : Sil src b c) : Sil src a c := ⟨h.on.trans h'.on, h'.notes.trans h.notes⟩
theorem Sil.keep {src : ByteArray} {a b : St} (h : Sil src a b) : b = { a with fresh := b.fresh, p := b.p, chw := b.chw, line0 := b.line0, col0 := b.col0, ch := b.ch } := by
  have := h.on.keep
  rw [h.notes] at this
  exact this
theorem sil_next {src : ByteArray} {p : Nat} {st : St} (h : Std src p st) (hc : Cln src (p + st.chw)) : Sil src st (nextch src st) := ⟨on_next _ _, (std_next h hc).2⟩
/-- Skipping over characters that are such, up to one that is not. -/
theorem skip_cl {src : ByteArray} {c : Int → Bool} (hc : c (-1) = false) {p q : Nat} {cs : List Int} (h : Cl src p cs q) : ∀ {st : St}, (∀ x ∈ cs, c x = true) → Cln src q → (∀ r w, ChAt src q r w → c r = false) → Std src p st →
    Std src q (skip src c st) ∧ Sil src st (skip src c st) := by
  induction h with
  | @nil p =>
    intro st _ hq hs hst
    have : ¬ c st.ch = true := by
      rcases hst.ch with h | ⟨_, h, _⟩
      · rw [hs _ _ h]; simp
      · rw [h, hc]; simp
    rw [skip_eq src c hc, if_neg this]
    exact ⟨hst, Sil.refl _ _⟩
  | @cons p w q r cs h1 h2 ih =>
    intro st ha hq hs hst
    obtain ⟨e1, e2⟩ := hst.of h1
    rw [skip_eq src c hc, if_pos (by rw [e1]; exact ha r (by simp))]
    have hn := std_next hst (by rw [e2]; exact h2.cln hq)
    have hsl := sil_next hst (by rw [e2]; exact h2.cln hq)
    rw [e2] at hn
    obtain ⟨g1, g2⟩ := ih (fun x hx => ha x (by simp [hx])) hq hs hn.1
    exact ⟨g1, hsl.trans g2⟩
end Sc
end Go.Proofs.YtogkcphobhhbdaaDoor

/- Plain: passes of next, one after the other; the tokens of a text, one after the other. -/
namespace Go.Proofs.YtogkcphobhhbdaaDoor
open Go Go.RowKit Go.Lib
namespace Sc
open Ev
set_option maxRecDepth 100000
def passes (src : ByteArray) (nl : Bool) (st : St) : St × List Value := runF (nextB src nl) (left src) (st0, []) st
theorem nextF_passes (src : ByteArray) (st : St) : nextF src st = passes src st.nlsemi { st with nlsemi := false } := rfl
def finG (src : ByteArray) (nl : Bool) : Fin → St × List Value
  | .done s bx => (s, bx)
  | .redo s => passes src nl s
  | .asg s => (asgF src s, [])
def fin0 : Fin := .done st0 []
theorem nextB_falls {src : ByteArray} {nl : Bool} (hs : src.size ≤ 2048) (a : St) (h : Pos0 src a) : (nextB src nl a).sat (Falls (Pos0 src) (left src) a) := by
  unfold nextB
  rw [sat_bind]
  refine sat_mono (pass_satR h hs) (fun f hf => ?_)
  cases f with
  | done s bx => trivial
  | redo s => exact ⟨.inl hf.1, hf.2.2.1⟩
  | asg s => trivial
theorem passes_step {src : ByteArray} {nl : Bool} {st : St} (h : Pos0 src st) (hs : src.size ≤ 2048) : passes src nl st = finG src nl ((passT src nl st).get fin0) := by
  unfold passes
  rw [runF_step (I := Pos0 src) (fun a ha => nextB_falls hs a ha) h (.out (st0, []))]
  unfold nextB
  rw [get_bind (pass_satR h hs) _ _ fin0]
  cases (passT src nl st).get fin0 with
  | done s bx => rfl
  | redo s => rfl
  | asg s => rfl
/-- At a place, or at a blank ahead of it. -/
def Go (src : ByteArray) (p : Nat) (st : St) : Prop := Std src p st ∨ (st.ch = 32 ∧ st.p = p)
theorem Go.same {src : ByteArray} {p : Nat} {a b : St} (h : Go src p a) (e1 : b.fresh = a.fresh) (e2 : b.p = a.p) (e3 : b.chw = a.chw) (e4 : b.ch = a.ch) : Go src p b := by
  rcases h with h | h
  · exact .inl (h.same e1 e2 e3 e4)
  · exact .inr ⟨e4.trans h.1, e2.trans h.2⟩
theorem blanks_cl {src : ByteArray} {nl : Bool} {p q : Nat} {cs : List Int} {st : St} (hg : Go src p st) (hp : p ≤ src.size) (h : Cl src p cs q) (hb : ∀ x ∈ cs, cBlank nl x = true) (hq : Cln src q) (hs : ∀ r w, ChAt src q r w → cBlank nl r = false) :
    Std src q (skip src (cBlank nl) st) ∧ Sil src st (skip src (cBlank nl) st) := by
  have c1 : cBlank nl (-1) = false := by cases nl <;> rfl
  rcases hg with hg | ⟨h32, he⟩
  · exact skip_cl c1 h hb hq hs hg
  · have hn := next_of (src := src) he (h.cln hq)
    rw [skip_eq src (cBlank nl) c1, if_pos (by rw [h32]; cases nl <;> rfl)]
    obtain ⟨g1, g2⟩ := skip_cl c1 h hb hq hs hn.1
    exact ⟨g1, (⟨on_next _ _, hn.2⟩ : Sil src st (nextch src st)).trans g2⟩
/-- A pass has come to the character at q. -/
structure Here (src : ByteArray) (q : Nat) (st n : St) : Prop where
  std : Std src q n
  b : n.b = some q
  notes : n.notes = st.notes
  nl : n.nlsemi = st.nlsemi
  mode : n.mode = st.mode
theorem pass_here {src : ByteArray} {nl : Bool} {p q : Nat} {cs : List Int} {st : St} (hg : Go src p st) (hp : p ≤ src.size) (h : Cl src p cs q) (hb : ∀ x ∈ cs, cBlank nl x = true) (hq : Cln src q) (hs : ∀ r w, ChAt src q r w → cBlank nl r = false) :
    ∃ n, Here src q st n ∧ passT src nl st = hdT src (fun s => Fin.done s []) (swT src nl) n := by
  obtain ⟨g1, g2⟩ := blanks_cl (hg.same (b := stop st) rfl rfl rfl rfl) hp h hb hq hs
  have k := g2.keep
  refine ⟨nxSt (decide (u64 (1 + (skip src (cBlank nl) (stop st)).line0) > u64 (1 + st.line0)) || u64 (1 + st.col0) == 1) (skip src (cBlank nl) (stop st)), ⟨g1.same rfl rfl rfl rfl, ?_, g2.notes, ?_, ?_⟩, rfl⟩
  · show some _ = some q
    rw [g1.cut]
  · show (skip src (cBlank nl) (stop st)).nlsemi = _
    rw [k]; rfl
  · show (skip src (cBlank nl) (stop st)).mode = _
    rw [k]; rfl
theorem hd_sw {src : ByteArray} {D : St → Fin} {K : St → Tree Fin} {n : St} (h1 : isLetterF n.ch = false) (h2 : n.ch < 128) (d : Fin) : (hdT src D K n).get d = (K n).get d := by
  have : decide (n.ch ≥ 128) = false := by simp; omega
  simp only [hdT, Tree.get, h1, this, cond_false, Bool.false_eq_true, if_false]
/-- A pass at a sign, a digit, a quote, or the end: what the switch says. -/
theorem pass_sw {src : ByteArray} {nl : Bool} {p q : Nat} {cs : List Int} {st : St} (hsz : src.size ≤ 2048) (hp0 : Pos0 src st) (hg : Go src p st) (hp : p ≤ src.size) (h : Cl src p cs q) (hb : ∀ x ∈ cs, cBlank nl x = true) {r : Int}
    (hr : (∃ w, ChAt src q r w) ∨ (q = src.size ∧ r = -1)) (hs : cBlank nl r = false) (h1 : isLetterF r = false) (h2 : r < 128) :
    ∃ n, Here src q st n ∧ n.ch = r ∧ passes src nl st = finG src nl ((swT src nl n).get fin0) := by
  have hq : Cln src q := by
    rcases hr with ⟨w, hc⟩ | hc
    · exact .inl ⟨_, _, hc⟩
    · exact .inr hc.1
  obtain ⟨n, hn, e⟩ := pass_here hg hp h hb hq (fun r' w' hc => by
    rcases hr with ⟨w, hc'⟩ | hc'
    · rw [(hc.uniq hc').1]; exact hs
    · have := hc.lt; omega)
  have hch : n.ch = r := by
    rcases hr with ⟨w, hc'⟩ | ⟨hc', hr'⟩
    · exact (hn.std.of hc').1
    · have := hn.std; rw [hc'] at this; rw [this.end.1, hr']
  refine ⟨n, hn, hch, ?_⟩
  rw [passes_step hp0 hsz, e, hd_sw (by rw [hch]; exact h1) (by rw [hch]; exact h2)]
/-- Tokens one after the other, up to the end; the state behind it. -/
inductive Toks (src : ByteArray) : St → List St → St → Prop
  | done {st : St} : (nextF src st).1.tok = 1 → Toks src st [(nextF src st).1] (nextF src st).1
  | more {st e : St} {L : List St} : (nextF src st).1.tok ≠ 1 → Toks src (nextF src st).1 L e → Toks src st ((nextF src st).1 :: L) e
theorem Toks.told {src : ByteArray} {st e : St} {L : List St} (h : Toks src st L e) : ∀ (n : Nat), Iv src st → meas src st < n → toksN src n st = L ∧ lastN src n st = e := by
  induction h with
  | @done st h =>
    intro n hI hn
    obtain ⟨m, rfl⟩ : ∃ m, n = m + 1 := ⟨n - 1, by omega⟩
    rw [toksN, lastN, if_pos h, if_pos h]
    exact ⟨rfl, rfl⟩
  | @more st e L h1 h2 ih =>
    intro n hI hn
    obtain ⟨m, rfl⟩ : ∃ m, n = m + 1 := ⟨n - 1, by omega⟩
    obtain ⟨hI', _, _, hlt⟩ := iv_next hI
    have := hlt h1
    obtain ⟨g1, g2⟩ := ih m hI' (by omega)
    rw [toksN, lastN, if_neg h1, if_neg h1]
    exact ⟨by rw [g1], g2⟩
theorem Toks.all {src : ByteArray} {m : Int} {e : St} {L : List St} (hs : src.size ≤ 2048) (h : Toks src (stI m) L e) : toks src m = L ∧ last src m = e := by
  unfold toks last
  exact h.told _ (iv_start src m hs) (Nat.lt_succ_self _)
/-- At the end of the text. -/
theorem end_pass {src : ByteArray} {nl : Bool} {p q : Nat} {cs : List Int} {st : St} (hsz : src.size ≤ 2048) (hp0 : Pos0 src st) (hg : Go src p st) (hp : p ≤ src.size) (h : Cl src p cs src.size) (hb : ∀ x ∈ cs, cBlank nl x = true) :
    ∃ n, Here src src.size st n ∧ passes src nl st = (if nl = true then lit wEOF n else tk 1 n, []) := by
  obtain ⟨n, hn, hch, e⟩ := pass_sw (r := -1) hsz hp0 hg hp h hb (.inr ⟨rfl, rfl⟩) (by cases nl <;> rfl) (by decide) (by decide)
  refine ⟨n, hn, e.trans ?_⟩
  unfold swT
  cases nl with
  | true => simp [Tree.get, hch, finG]
  | false => simp [Tree.get, hch, finG, sw1]
/-- The end of a text behind blanks: the semicolon that is put in, if it must; the end. -/
theorem end_toks {src : ByteArray} {p : Nat} {cs : List Int} {st : St} (hI : Iv src st) (hg : Go src p st) (hp : p ≤ src.size) (h : Cl src p cs src.size) (hb : ∀ x ∈ cs, cBlank st.nlsemi x = true) :
    ∃ L e, Toks src st L e ∧ e.notes = st.notes ∧ e.tok = 1 ∧ (if st.nlsemi = true then ∃ s, L = [s, e] ∧ s.tok = 18 ∧ s.lit = wEOF else L = [e]) := by
  have p0 : Pos0 src { st with nlsemi := false } := by
    rcases hI.pos with h1 | h1
    · exact .inl (h1.same rfl rfl rfl)
    · exact .inr h1
  obtain ⟨n, hn, e⟩ := end_pass (nl := st.nlsemi) (q := 0) hI.sz p0 (hg.same rfl rfl rfl rfl) hp h hb
  rw [← nextF_passes] at e
  cases hnl : st.nlsemi with
  | false =>
    rw [hnl] at e
    have e1 : (nextF src st).1 = tk 1 n := by rw [e]; rfl
    have h1 : (nextF src st).1.tok = 1 := by rw [e1]; rfl
    refine ⟨_, _, (.done h1), by rw [e1]; exact hn.notes, h1, by simp⟩
  | true =>
    rw [hnl] at e
    have e1 : (nextF src st).1 = lit wEOF n := by rw [e]; rfl
    have i1 := (iv_next hI).1
    have nl1 : (nextF src st).1.nlsemi = false := by rw [e1]; exact hn.nl
    have p1 : Pos0 src { (nextF src st).1 with nlsemi := false } := by
      rcases i1.pos with h1 | h1
      · exact .inl (h1.same rfl rfl rfl)
      · exact .inr h1
    have g1 : Std src src.size (nextF src st).1 := by rw [e1]; exact hn.std.same rfl rfl rfl rfl
    obtain ⟨n2, hn2, e2⟩ := end_pass (nl := (nextF src st).1.nlsemi) (q := 0) hI.sz p1 (.inl (g1.same rfl rfl rfl rfl)) (Nat.le_refl _) .nil (fun x hx => absurd hx (List.not_mem_nil))
    rw [← nextF_passes, nl1] at e2
    have e3 : (nextF src (nextF src st).1).1 = tk 1 n2 := by rw [e2]; rfl
    have h3 : (nextF src (nextF src st).1).1.tok = 1 := by rw [e3]; rfl
    refine ⟨_, _, .more (by rw [e1]; show (18 : Int) ≠ 1; decide) (.done h3), ?_, h3, ?_⟩
    · rw [e3]
      show n2.notes = _
      rw [hn2.notes]
      show (nextF src st).1.notes = _
      rw [e1]
      exact hn.notes
    · rw [if_pos rfl]
      exact ⟨_, rfl, by rw [e1]; rfl, by rw [e1]; rfl⟩
end Sc
end Go.Proofs.YtogkcphobhhbdaaDoor

/- Plain: raw strings; what is told once is never taken back. -/
namespace Go.Proofs.YtogkcphobhhbdaaDoor
open Go Go.RowKit Go.Lib
namespace Sc
open Ev
set_option maxRecDepth 100000
theorem stI_go (src : ByteArray) (m : Int) : Go src 0 (stI m) := .inr ⟨rfl, rfl⟩
end Sc
end Go.Proofs.YtogkcphobhhbdaaDoor

/- ZZScan: what a round reads of the scanner. -/
namespace Go.Proofs.YtogkcphobhhbdaaDoor
open Go Go.RowKit Go.Lib
namespace Sc
open Ev
set_option maxRecDepth 100000
theorem sval {A : Ad} {st : St} {w : World} {o : Nat} {u : Value} (h : SInv A st w) (hg : sget st o = some (.val u)) : w.cell? ⟨A.s, o, none⟩ = some u := by
  obtain ⟨v, hv, hr⟩ := sget_ok h hg
  have : v = u := hr []
  rw [hv, this]
/-- A token's sign. -/
def opStr (o : Int) : ByteArray := if o = 0 then opZero else opWord o.toNat
/-- The cells of a token told. -/
def tokCells (st : St) : List Value := [.int .u64 st.line, .int .u64 st.col, .bool st.blank, .string (tokWord st.tok.toNat), .string st.lit, .bool st.bad, .int .i64 (IntKind.i64.wrap st.kind), .string (opStr st.op), .int .i64 st.prec]
theorem opS_walk (w : World) (h : ∀ i, i < 24 → w.cell? ⟨2, i, none⟩ = some (.int .u8 ([0, 1, 2, 4, 5, 7, 9, 11, 13, 14, 16, 17, 19, 20, 21, 22, 23, 24, 25, 26, 27, 29, 31, 33].getD i 0))) (o : Int) (h1 : 0 ≤ o) (h2 : o ≤ 23) :
    Calls Tryd.prog 54 #[.int .u64 o] w fun e w' => e = .returned (.string (opStr o)) ∧ ∃ m, w' = w.drewN m := by
  unfold opStr
  by_cases h0 : o = 0
  · rw [if_pos h0, h0]; exact opS_0 w
  · rw [if_neg h0]
    have := opS_all w h o.toNat (by omega) (by omega)
    rw [show ((o.toNat : Nat) : Int) = o by omega] at this
    exact this
theorem tokS_walk (w : World) (h : ∀ i, i < 48 → w.cell? ⟨1, i, none⟩ = some (.int .u8 ([0, 3, 7, 14, 16, 19, 23, 24, 26, 28, 29, 30, 31, 32, 33, 34, 35, 36, 37, 38, 39, 42, 47, 51, 55, 60, 68, 75, 80, 84, 95, 98, 102, 104, 108, 110, 116, 125, 128, 135, 140, 146, 152, 158, 164, 168, 171, 171].getD i 0))) (t : Int) (h1 : 1 ≤ t) (h2 : t ≤ 46) :
    Calls Tryd.prog 53 #[.int .u64 t] w fun e w' => e = .returned (.string (tokWord t.toNat)) ∧ ∃ m, w' = w.drewN m := by
  have := tokS_all w h t.toNat (by omega) (by omega)
  rw [show ((t.toNat : Nat) : Int) = t by omega] at this
  exact this
end Sc
end Go.Proofs.YtogkcphobhhbdaaDoor

/- ZZScan: the end of a round walked. -/
namespace Go.Proofs.YtogkcphobhhbdaaDoor
open Go Go.RowKit Go.Lib
namespace Sc
open Ev
set_option maxRecDepth 100000
noncomputable abbrev zzBody : Code := bodyOf Tryd.f30
noncomputable abbrev zzRound : Code := loopOf (blkOf zzBody 0)
noncomputable abbrev zzIn : Code := blkOf zzBody 1
theorem zz_round : zzRound = .block 1 zzIn := by kernel_rfl
/-- The tables of names, as a world has them. -/
structure Tabs (w : World) : Prop where
  tok : ∀ i, i < 48 → w.cell? ⟨1, i, none⟩ = some (.int .u8 ([0, 3, 7, 14, 16, 19, 23, 24, 26, 28, 29, 30, 31, 32, 33, 34, 35, 36, 37, 38, 39, 42, 47, 51, 55, 60, 68, 75, 80, 84, 95, 98, 102, 104, 108, 110, 116, 125, 128, 135, 140, 146, 152, 158, 164, 168, 171, 171].getD i 0))
  op : ∀ i, i < 24 → w.cell? ⟨2, i, none⟩ = some (.int .u8 ([0, 1, 2, 4, 5, 7, 9, 11, 13, 14, 16, 17, 19, 20, 21, 22, 23, 24, 25, 26, 27, 29, 31, 33].getD i 0))
theorem Tabs.drewN {w : World} (h : Tabs w) (n : Nat) : Tabs (w.drewN n) := ⟨h.tok, h.op⟩
theorem Tabs.drew {w : World} (h : Tabs w) : Tabs w.drew := ⟨h.tok, h.op⟩
theorem Tabs.cells {w w' : World} (h : Tabs w) (h1 : w'.heap[1]? = w.heap[1]?) (h2 : w'.heap[2]? = w.heap[2]?) : Tabs w' :=
  ⟨fun i hi => by rw [World.cell?_of_block (w := w) (a := ⟨1, i, none⟩) h1]; exact h.tok i hi, fun i hi => by rw [World.cell?_of_block (w := w) (a := ⟨2, i, none⟩) h2]; exact h.op i hi⟩
theorem Tabs.lt {w : World} (h : Tabs w) : 1 < w.heap.size ∧ 2 < w.heap.size :=
  ⟨World.block_lt_of_cell? w _ (h.tok 0 (by decide)), World.block_lt_of_cell? w _ (h.op 0 (by decide))⟩
theorem Tabs.alloc {w : World} (h : Tabs w) (o : Obj) : Tabs (w.alloc o) :=
  h.cells (Below.heap_alloc _ _ _ h.lt.1) (Below.heap_alloc _ _ _ h.lt.2)
theorem Tabs.grown {w w' : World} {row : Option Nat} (h : Tabs w) (hg : w.grownBy w' row) (h1 : some 1 ≠ row) (h2 : some 2 ≠ row) : Tabs w' :=
  h.cells (hg.block _ h.lt.1 h1) (hg.block _ h.lt.2 h2)
theorem info_tok : (Tryd.prog.info? 57).map (fun i => (i.zero, i.size, i.bytes)) = some (some (.agg #[.int .u64 0, .int .u64 0, .bool false, .string ⟨#[]⟩, .string ⟨#[]⟩, .bool false, .int .i64 0, .string ⟨#[]⟩, .int .i64 0]), 9, 96) := by kernel_rfl
/-- A tape that went on. -/
theorem own_drewN {w : World} {base n : Nat} {e : TypeId} {sz : Nat} {v : Value} {xs : List Value} (h : w.ownsRow base e sz v n xs) (m : Nat) : (w.drewN m).ownsRow base e sz v n xs := h
/-- A token is appended. -/
theorem zz_app {w : World} {k base n : Nat} {v : Value} {xs : List Value} {st : St} (hown : w.ownsRow base 57 9 v n xs) (hbase : base ≤ w.heap.size) (hn : n ≤ 1000000)
    {ops : Array Oper} {o : Oper} {a : Act} {K : Act → World → Prop} {Q : Exit → Act → World → Prop} {E : Prop} (hgd : o.guard = none) (s x : Operand)
    (ho : o.op = .call { callee := .builtin .append, args := #[s, x], argTypes := #[51, 51] }) (hs : a.eval s = v) (hx : a.eval x = .slice (some ⟨w.heap.size, 0, none⟩) 1 1)
    (h : ∀ g cap w', w'.ownsRow base 57 9 (.slice (some ⟨g, 0, none⟩) (n + 1) cap) (n + 1) (xs ++ tokCells st) → ((w.drewN k).alloc (.cells (tokCells st).toArray 57)).grownBy w' v.ownBlock → (v.ownBlock = some g ∨ g = w.heap.size + 1) → g < w'.heap.size → K (a.put o.dst (.slice (some ⟨g, 0, none⟩) (n + 1) cap)) w') :
    if Region.wanted o (yielded ops a.tmps) = true then Oper.wp Tryd.prog o a ((w.drewN k).alloc (.cells (tokCells st).toArray 57)) K Q else E := by
  obtain ⟨i0, hi0, hz0, hz1, hz2⟩ := info_parts info_tok
  have hsz : ((w.drewN k).alloc (.cells (tokCells st).toArray 57)).heap.size = w.heap.size + 1 := by simp
  have hlen : (tokCells st).length = 9 := rfl
  have hml : n + 1 ≤ maxLen := by simp only [maxLen]; omega
  have hone : ∀ u ∈ tokCells st, u.oneCell' = true := by simp [tokCells, Value.oneCell']
  exact step_append_lies _ hgd s x 51 ho base 57 i0 _ 9 96 Tryd.underlying51 hi0 hz0 hz1 hz2 rfl (by omega) v n xs hs (own_alloc (own_drewN hown k) _)
    ⟨w.heap.size, 0, none⟩ 1 1 (tokCells st) hx hlen (World.news_of_block (cs := (tokCells st).toArray) (t := 57) (fr := (0, 0)) (heap_alloc_new (w.drewN k) _)) hone
    (by omega) hml (by omega) (by rw [hsz]; omega) (w.heap.size + 1) hsz h
/-- The slots of a round: the errors, the scanner, the tokens. -/
structure ZA (A : Ad) (v : Value) (a : Act) : Prop where
  defers : a.defers = []
  size : a.tmps.size = 46
  e : a.tmps[6]? = some (.pointer (some ⟨A.e, 0, none⟩))
  s : a.tmps[7]? = some (.pointer (some ⟨A.s, 0, none⟩))
  v : a.tmps[8]? = some v
theorem tmps46 (t : Array Value) (h : t.size = 46) : t = ((List.range 46).map fun i => t.getD i undef).toArray := by
  apply Array.ext_getElem?
  intro i
  simp only [List.getElem?_toArray, List.getElem?_map]
  by_cases hi : i < 46
  · rw [List.getElem?_range hi]
    simp [h, hi]
  · rw [Array.getElem?_eq_none (by omega), List.getElem?_eq_none (by simp; omega)]; rfl
theorem ZA.lit {A : Ad} {v : Value} {a : Act} (h : ZA A v a) : ∃ x : Nat → Value, a = { tmps := #[x 0, x 1, x 2, x 3, x 4, x 5, .pointer (some ⟨A.e, 0, none⟩), .pointer (some ⟨A.s, 0, none⟩), v, x 9, x 10, x 11, x 12, x 13, x 14, x 15, x 16, x 17, x 18, x 19, x 20, x 21, x 22, x 23, x 24, x 25, x 26, x 27, x 28, x 29, x 30, x 31, x 32, x 33, x 34, x 35, x 36, x 37, x 38, x 39, x 40, x 41, x 42, x 43, x 44, x 45], defers := [] } := by
  refine ⟨fun i => a.tmps.getD i undef, ?_⟩
  obtain ⟨t, d⟩ := a
  obtain ⟨h1, h2, h3, h4, h5⟩ := h
  simp only at h1 h2 h3 h4 h5
  subst h1
  have e6 : t.getD 6 undef = .pointer (some ⟨A.e, 0, none⟩) := by rw [Array.getD_eq_getD_getElem?, h3]; rfl
  have e7 : t.getD 7 undef = .pointer (some ⟨A.s, 0, none⟩) := by rw [Array.getD_eq_getD_getElem?, h4]; rfl
  have e8 : t.getD 8 undef = v := by rw [Array.getD_eq_getD_getElem?, h5]; rfl
  have ht := tmps46 t h2
  rw [← e6, ← e7, ← e8]
  exact congrArg (fun t => ({ tmps := t, defers := [] } : Act)) ht
theorem za_lit {A : Ad} {v : Value} (x : Nat → Value) : ZA A v { tmps := #[x 0, x 1, x 2, x 3, x 4, x 5, .pointer (some ⟨A.e, 0, none⟩), .pointer (some ⟨A.s, 0, none⟩), v, x 9, x 10, x 11, x 12, x 13, x 14, x 15, x 16, x 17, x 18, x 19, x 20, x 21, x 22, x 23, x 24, x 25, x 26, x 27, x 28, x 29, x 30, x 31, x 32, x 33, x 34, x 35, x 36, x 37, x 38, x 39, x 40, x 41, x 42, x 43, x 44, x 45], defers := [] } := ⟨rfl, rfl, rfl, rfl, rfl⟩
def fstC : Code → Code
  | .seq a _ => a
  | _ => .skip
noncomputable abbrev zzReg : Code := fstC (cutTail 1 zzIn)
theorem zz_cut : cutTail 1 zzIn = .seq zzReg (cutTail 2 zzIn) := by kernel_rfl
set_option maxHeartbeats 3200000 in
theorem zz_mid {A : Ad} (hA : A.Ok) {st : St} {w : World} (hI : SInv A st w) (hT : Tabs w) (hk : Rk st) (v : Value) (n : Nat) (xs : List Value) (hown : w.ownsRow A.base 57 9 v n xs) (hbase : A.base ≤ w.heap.size) (hn : n ≤ 1000000)
    (a0 : v.ownBlock ≠ some A.s) (a1 : v.ownBlock ≠ some 1) (a2 : v.ownBlock ≠ some 2) (Q : Exit → Act → World → Prop) (x : Nat → Value)
    (hQ : ∀ (k gg cap : Nat) (w1 : World) (a : Act), w1.ownsRow A.base 57 9 (.slice (some ⟨gg, 0, none⟩) (n + 1) cap) (n + 1) (xs ++ tokCells st) → ((w.drewN k).alloc (.cells (tokCells st).toArray 57)).grownBy w1 v.ownBlock → (v.ownBlock = some gg ∨ gg = w.heap.size + 1) → gg < w1.heap.size → Tabs w1 →
      ZA A (.slice (some ⟨gg, 0, none⟩) (n + 1) cap) a → Q .normal a w1) :
    zzReg.wp Tryd.prog Q { tmps := #[x 0, x 1, x 2, x 3, x 4, x 5, .pointer (some ⟨A.e, 0, none⟩), .pointer (some ⟨A.s, 0, none⟩), v, x 9, x 10, x 11, x 12, x 13, x 14, x 15, x 16, x 17, x 18, x 19, x 20, x 21, x 22, x 23, x 24, x 25, x 26, x 27, x 28, x 29, x 30, x 31, x 32, x 33, x 34, x 35, x 36, x 37, x 38, x 39, x 40, x 41, x 42, x 43, x 44, x 45], defers := [] } w := by
  have c13 := sval hI (o := 13) rfl
  have c14 := sval hI (o := 14) rfl
  have c15 := sval hI (o := 15) rfl
  have c16 := sval hI (o := 16) rfl
  have c17 := sval hI (o := 17) rfl
  have c18 := sval hI (o := 18) rfl
  have c19 := sval hI (o := 19) rfl
  have c20 := sval hI (o := 20) rfl
  have c21 := sval hI (o := 21) rfl
  obtain ⟨⟨k1, k2⟩, k3, k4⟩ := hk
  have ls := World.block_lt_of_cell? w _ c13
  clear hI
  simp only [zzReg, fstC, zzIn, zzBody, bodyOf, Tryd.f30, Option.getD, blkOf, cutTail, cutN, Option.map, Nat.beq, cond]
  have hz := fun v' => za_lit (A := A) (v := v')
  generalize hs : A.s = s at *
  generalize A.base = base at *
  go_region_held3 (fun w' => w'.cell? ⟨s, 13, none⟩ = some (.int .u64 st.line) ∧ w'.cell? ⟨s, 14, none⟩ = some (.int .u64 st.col) ∧ w'.cell? ⟨s, 15, none⟩ = some (.bool st.blank) ∧ w'.cell? ⟨s, 16, none⟩ = some (.int .u64 st.tok) ∧
      w'.cell? ⟨s, 17, none⟩ = some (.string st.lit) ∧ w'.cell? ⟨s, 18, none⟩ = some (.bool st.bad) ∧ w'.cell? ⟨s, 19, none⟩ = some (.int .u8 st.kind) ∧ w'.cell? ⟨s, 20, none⟩ = some (.int .u64 st.op) ∧ w'.cell? ⟨s, 21, none⟩ = some (.int .i64 st.prec) ∧ Tabs w')
    (first
      | (go_split_ands; refine ⟨?_, ?_, ?_, ?_, ?_, ?_, ?_, ?_, ?_, ?_⟩ <;> first
          | exact Tabs.drew (by assumption)
          | exact Tabs.drewN (by assumption) _
          | exact Tabs.alloc (by assumption) _
          | (go_keep; done)
          | (rw [hgrow.cell_far _ (by simp; omega) (Ne.symm a0)]; assumption)
          | exact Tabs.grown (by assumption) hgrow (Ne.symm a1) (Ne.symm a2)))
    (first
      | (go_at_call 53; go_split_ands; refine (tokS_walk _ (Tabs.tok (by assumption)) st.tok k1 k2).mono ?_; rintro en w' ⟨rfl, m, rfl⟩)
      | (go_at_call 54; go_split_ands; refine (opS_walk _ (Tabs.op (by assumption)) st.op k3 k4).mono ?_; rintro en w' ⟨rfl, m, rfl⟩)
      | (refine zz_app (st := st) hown hbase hn (by rfl) _ _ (by rfl) (by rfl) (by rfl) ?_; intro gg cap w1 hown1 hgrow hat hlt))
  go_split_ands
  exact hQ _ gg cap w1 _ hown1 hgrow hat hlt (by assumption) ⟨rfl, rfl, rfl, by rw [hs]; rfl, rfl⟩
end Sc
end Go.Proofs.YtogkcphobhhbdaaDoor

/- ZZScan: a round's test. -/
namespace Go.Proofs.YtogkcphobhhbdaaDoor
open Go Go.RowKit Go.Lib
namespace Sc
open Ev
set_option maxRecDepth 100000
theorem zz_fin {A : Ad} {st : St} {w : World} (hI : SInv A st w) (v : Value) (a : Act) (hz : ZA A v a) (Q : Exit → Act → World → Prop)
    (h1 : st.tok ≠ 1 → ∀ a', ZA A v a' → Q .normal a' w)
    (h2 : st.tok = 1 → ∀ ve a' w', w'.heap = w.heap → w'.os = w.os → w'.tape = w.tape → w'.output = w.output → w.cell? ⟨A.e, 0, none⟩ = some ve → a'.defers = [] → a'.tmps[4]? = some v → a'.tmps[5]? = some ve → Q .ret a' w') :
    (cutTail 2 zzIn).wp Tryd.prog Q a w := by
  obtain ⟨x, rfl⟩ := hz.lit
  have c16 := sval hI (o := 16) rfl
  obtain ⟨x0, hx, _⟩ := hI
  obtain ⟨ve, hve, _⟩ := hx.he
  have ce := cell_of_block hve (o := 0) (v := ve) rfl
  have ls := World.block_lt_of_cell? w _ c16
  clear hx hve
  simp only [zzIn, zzBody, bodyOf, Tryd.f30, Option.getD, blkOf, cutTail, cutN, Option.map, Nat.beq, cond]
  generalize hs : A.s = s at *
  generalize he : A.e = e at *
  go_wp2
  · rename_i ht K hK
    have ht1 : st.tok = 1 := by simpa using ht
    clear hz
    go_region_held3 (fun w' => w'.cell? ⟨e, 0, none⟩ = some ve) (go_keep) (fail)
    all_goals (simp only [Exit.then]; refine hK _ _ (wp_ret ?_); refine h2 ht1 ve _ _ ?_ ?_ ?_ ?_ ce ?_ ?_ ?_ <;> rfl)
  · rename_i ht
    exact h1 (by simpa using ht) _ ⟨rfl, rfl, by rw [he]; rfl, by rw [hs]; rfl, rfl⟩
end Sc
end Go.Proofs.YtogkcphobhhbdaaDoor

/- ZZScan: next is called. -/
namespace Go.Proofs.YtogkcphobhhbdaaDoor
open Go Go.RowKit Go.Lib
namespace Sc
open Ev
set_option maxRecDepth 100000
theorem next_calls {A : Ad} (hA : A.Ok) {st : St} {w : World} (hI : SInv A st w) (hp : Pos0 A.src st) (hb : (nextF A.src st).1.notes.length < lim) :
    Calls Tryd.prog 52 #[.pointer (some ⟨A.s, 0, none⟩)] w (fun e w' => e = .returned (.tuple #[]) ∧ SInv A (nextF A.src st).1 w' ∧ Fr (SY A) [] w w') := by
  obtain ⟨_, h, _⟩ := nxtS_ok A hA
  have hc : InvC (SY A) [] ⟨st, []⟩ w := ⟨hI, rfl, List.nodup_nil, fun i b u h => by simp at h, fun b h => by simp at h⟩
  have hr : Rels (SY A) [] w [.st 0] [.pointer (some ⟨A.s, 0, none⟩)] := .cons rfl .nil
  have := h [.st 0] ⟨st, []⟩ [] w [.pointer (some ⟨A.s, 0, none⟩)] (fun p => p = (unit, ⟨(nextF A.src st).1, (nextF A.src st).2⟩)) hr hc ⟨⟨hp, hA.n1⟩, rfl⟩
  refine Calls.mono this ?_
  rintro e w' (⟨sv, c', v, bl', hq, rfl, hrel, hinv, hext, _⟩ | ⟨rfl, p, rfl, hbig⟩)
  · cases hq
    have hv : v = .tuple #[] := hrel
    exact ⟨by rw [hv], hinv.inv, hext.fr⟩
  · exact absurd hbig (Nat.not_le.2 hb)
/-! What stays so. -/
theorem tabs_of {A : Ad} {st : St} {w : World} (hI : SInv A st w) : Tabs w := by
  obtain ⟨x, hx, _⟩ := hI
  have hg := hx.ok.glob
  have hs := hg.size
  exact ⟨fun i hi => by rw [World.cell?_of_block (w := A.w0) (a := ⟨1, i, none⟩) (hx.below.block _ (by show 1 < _; omega))]; exact hg.tix i hi,
    fun i hi => by rw [World.cell?_of_block (w := A.w0) (a := ⟨2, i, none⟩) (hx.below.block _ (by show 2 < _; omega))]; exact hg.oix i hi⟩
theorem own_ety {w : World} {base n : Nat} {e : TypeId} {sz : Nat} {v : Value} {xs : List Value} (h : w.ownsRow base e sz v n xs) {k : Nat} (hk : v.ownBlock = some k) : base ≤ k ∧ ety w k = some e ∧ k < w.heap.size := by
  rcases h.2 with ⟨rfl, _⟩ | ⟨g, cap, cur, rfl, hb, hh, _⟩
  · simp [Value.ownBlock] at hk
  · have : g = k := by simpa [Value.ownBlock] using hk
    subst this
    exact ⟨hb, ety_of_block hh, (Array.getElem?_eq_some_iff.1 hh).1⟩
theorem kept_drewN {A : Ad} {w : World} (n : Nat) : Kept A w (w.drewN n) :=
  ⟨⟨rfl, rfl, rfl, Nat.le_refl _, fun _ _ => rfl⟩, fun _ _ hu _ hown => ⟨hu, hown⟩, rfl, rfl, rfl, rfl, Nat.le_refl _⟩
theorem own_block {w w' : World} {base n : Nat} {e : TypeId} {sz : Nat} {v : Value} {xs : List Value} (h : w.ownsRow base e sz v n xs) (hb : ∀ k, v.ownBlock = some k → w'.heap[k]? = w.heap[k]?) : w'.ownsRow base e sz v n xs := by
  obtain ⟨h1, h2⟩ := h
  refine ⟨h1, ?_⟩
  rcases h2 with h2 | ⟨g, cap, cur, hv, hg, hh, r⟩
  · exact .inl h2
  · exact .inr ⟨g, cap, cur, hv, hg, by rw [hb g (by rw [hv]; rfl)]; exact hh, r⟩
theorem kept_grown {A : Ad} {x : Raw} {w w' : World} {row : Option Nat} (h : RInv A x w) (hg : w.grownBy w' row) (hr : ∀ k, row = some k → A.base ≤ k ∧ ety w k ≠ some 59) : Kept A w w' := by
  have l1 := lt_s h
  have l2 := lt_buf h
  have b0 := h.below.size
  have := h.ok.s_rd; have := h.ok.rd_buf; have := h.ok.buf_base; have := h.hsize; have := h.ok.e_s; have := h.ok.sb_e; have := h.ok.lo_sb
  have ne : ∀ k, k < A.base → some k ≠ row := fun k hk e => by have := (hr k e.symm).1; omega
  have g := fun k (hk : k < A.base) => hg.block k (by omega) (ne k hk)
  refine ⟨⟨hg.os, hg.tape, hg.output, hg.size, fun k hk => g k (by omega)⟩, fun n u hu xs hown => ⟨by rw [g A.e (by omega)]; exact hu, own_block hown (fun k hk => ?_)⟩, g _ (by omega), g _ (by omega), g _ (by omega), g _ (by omega), hg.size⟩
  obtain ⟨h1, h2, h3⟩ := own_ety hown hk
  exact hg.block k h3 (fun e => (hr k e.symm).2 h2)
theorem sinv_kept {A : Ad} {st : St} {w w' : World} (h : SInv A st w) (hk : ∀ x, RInv A x w → Kept A w w') : SInv A st w' := by
  obtain ⟨x, hx, ha⟩ := h
  exact ⟨x, hx.kept (hk x hx), ha⟩
theorem ety_alloc {w : World} {o : Obj} {k : Nat} (h : k < w.heap.size) : ety (w.alloc o) k = ety w k := by unfold Ev.ety World.shape?; rw [Below.heap_alloc _ _ _ h]
/-- Behind an append to the tokens the scanner is as it was. -/
theorem sinv_app {A : Ad} {st : St} {w w1 : World} {v : Value} {n k : Nat} {xs : List Value} {o : Obj} (hI : SInv A st w) (hown : w.ownsRow A.base 57 9 v n xs) (hg : ((w.drewN k).alloc o).grownBy w1 v.ownBlock) : SInv A st w1 := by
  have h1 : SInv A st (w.drewN k) := sinv_kept hI (fun _ _ => kept_drewN k)
  have h2 : SInv A st ((w.drewN k).alloc o) := sinv_kept h1 (fun _ hx => kept_alloc hx o)
  refine sinv_kept h2 (fun _ hx => kept_grown hx hg (fun b hb => ?_))
  obtain ⟨g1, g2, g3⟩ := own_ety hown hb
  refine ⟨g1, ?_⟩
  rw [ety_alloc (w := w.drewN k) g3]
  show ety w b ≠ _
  rw [g2]
  decide
theorem fr_own {A : Ad} {w w1 : World} {v : Value} {n : Nat} {xs : List Value} (hA : A.Ok) (hf : Fr (SY A) [] w w1) (hown : w.ownsRow A.base 57 9 v n xs) (hw : A.w0.heap.size ≤ A.base) : w1.ownsRow A.base 57 9 v n xs := by
  refine own_block hown (fun k hk => ?_)
  obtain ⟨g1, g2, g3⟩ := own_ety hown hk
  have := hA.s_rd; have := hA.rd_buf; have := hA.buf_base; have := hA.e_s; have := hA.sb_e
  refine hf.keep k g3 ?_ (by simp)
  show ¬ (k < A.w0.heap.size ∨ k = A.s ∨ k = A.buf ∨ k = A.rd ∨ k = A.e ∨ k = A.sb ∨ (A.base ≤ k ∧ ety w k = some 59))
  rw [g2]
  simp only [not_or, not_and]
  exact ⟨by omega, by omega, by omega, by omega, by omega, by omega, fun _ => by decide⟩
/-! A round begins with next. -/
noncomputable abbrev zzCall : Code := fstC zzIn
theorem zz_cut1 : zzIn = .seq zzCall (cutTail 1 zzIn) := by kernel_rfl
theorem zz_call {A : Ad} (hA : A.Ok) {st : St} {w : World} (hI : SInv A st w) (hp : Pos0 A.src st) (hb : (nextF A.src st).1.notes.length < lim) (v : Value) (a : Act) (hz : ZA A v a) (Q : Exit → Act → World → Prop)
    (hQ : ∀ a' w', ZA A v a' → SInv A (nextF A.src st).1 w' → Fr (SY A) [] w w' → Q .normal a' w') : zzCall.wp Tryd.prog Q a w := by
  obtain ⟨x, rfl⟩ := hz.lit
  have hN := next_calls hA hI hp hb
  clear hI
  simp only [zzCall, fstC, zzIn, zzBody, bodyOf, Tryd.f30, Option.getD, blkOf, cond, Nat.beq]
  clear hz
  go_wp2_with (refine hN.mono ?_; rintro en w' ⟨rfl, hI', hF⟩)
  exact hQ _ _ ⟨rfl, rfl, rfl, rfl, rfl⟩ hI' hF
end Sc
end Go.Proofs.YtogkcphobhhbdaaDoor

/- ZZScan: its loop. -/
namespace Go.Proofs.YtogkcphobhhbdaaDoor
open Go Go.RowKit Go.Lib
namespace Sc
open Ev
set_option maxRecDepth 100000
/-- Rows put end to end. -/
def flat {α β : Type} (f : α → List β) : List α → List β
  | [] => []
  | s :: l => f s ++ flat f l
theorem flat_append {α β : Type} (f : α → List β) (l k : List α) : flat f (l ++ k) = flat f l ++ flat f k := by
  induction l with
  | nil => rfl
  | cons a l ih => simp [flat, ih]
theorem flat_get {α β : Type} {f : α → List β} {k : Nat} (hf : ∀ a, (f a).length = k) : ∀ (l : List α) (i j : Nat) (a : α), l[i]? = some a → j < k → (flat f l)[i * k + j]? = (f a)[j]?
  | [], i, j, a, h, _ => by simp at h
  | b :: l, 0, j, a, h, hj => by
    simp only [List.getElem?_cons_zero, Option.some.injEq] at h
    subst h
    simp only [flat, Nat.zero_mul, Nat.zero_add]
    rw [List.getElem?_append_left (by rw [hf]; exact hj)]
  | b :: l, i + 1, j, a, h, hj => by
    simp only [List.getElem?_cons_succ] at h
    simp only [flat]
    rw [List.getElem?_append_right (by rw [hf, Nat.add_mul]; omega), hf, show (i + 1) * k + j - k = i * k + j by rw [Nat.add_mul]; omega]
    exact flat_get hf l i j a h hj
/-- The cells of tokens told. -/
abbrev rowOf : List St → List Value := flat tokCells
/-- What is told stays little. -/
def Nb (src : ByteArray) (st : St) : Prop := st.notes.length + 7000 * (meas src st + 1) ≤ 60000000
theorem nb_next {src : ByteArray} {st : St} (hI : Iv src st) (h : Nb src st) : (nextF src st).1.notes.length ≤ 60000000 ∧ ((nextF src st).1.tok ≠ 1 → Nb src (nextF src st).1) := by
  obtain ⟨hI', hk, ht, hlt⟩ := iv_next hI
  have hc := nextF_cn hI.pos hI.sz
  have hl := (nextF_sat hI.pos hI.sz).2.1.left
  have ml : 2 * left src st ≤ meas src st := by unfold meas; omega
  have mu : meas src st ≤ 2 * left src st + 1 := by unfold meas; split <;> omega
  have ml' : 2 * left src (nextF src st).1 ≤ meas src (nextF src st).1 := by unfold meas; omega
  have mu' : meas src (nextF src st).1 ≤ 2 * left src (nextF src st).1 + 1 := by unfold meas; split <;> omega
  unfold Nb at h ⊢
  exact ⟨by omega, fun hne => by have h2 := hlt hne; omega⟩
theorem nb_start {src : ByteArray} (m : Int) (hs : src.size ≤ 2048) : Nb src (stI m) := by
  have h2 : meas src (stI m) ≤ 8196 := by
    have : left src (stI m) = 2 * (src.size - 0) + 1 := rfl
    unfold meas
    rw [if_neg (show ¬ (stI m).nlsemi = true from fun h => by cases h)]
    omega
  have h3 : (stI m).notes.length = 0 := rfl
  unfold Nb; omega
structure Lp (A : Ad) (st : St) (v : Value) (n : Nat) (xs : List Value) (a : Act) (w : World) : Prop where
  inv : SInv A st w
  own : w.ownsRow A.base 57 9 v n xs
  za : ZA A v a
  iv : Iv A.src st
  nb : Nb A.src st
theorem zz_loop {A : Ad} (hA : A.Ok) (Q : Exit → Act → World → Prop) : ∀ (m : Nat) (st : St) (v : Value) (n : Nat) (xs : List Value) (a : Act) (w : World), Lp A st v n xs a w → meas A.src st < m → n + m ≤ 1000000 →
    (∀ v' ve a' w', w'.ownsRow A.base 57 9 v' (n + (toksN A.src m st).length) (xs ++ rowOf (toksN A.src m st)) → SInv A (lastN A.src m st) w' → w'.cell? ⟨A.e, 0, none⟩ = some ve → a'.defers = [] → a'.tmps[4]? = some v' → a'.tmps[5]? = some ve → Q .ret a' w') →
    Code.rounds Tryd.prog zzRound (Exit.inBlock 0 Q) m a w
  | 0, _, _, _, _, _, _, _, h, _, _ => absurd h (Nat.not_lt_zero _)
  | m + 1, st, v, n, xs, a, w, h, hm, hn, hQ => by
    obtain ⟨hI', hk, _, hlt⟩ := iv_next h.iv
    obtain ⟨hb, hnb⟩ := nb_next h.iv h.nb
    have hb' : (nextF A.src st).1.notes.length < lim := by unfold lim; omega
    have hlo : A.w0.heap.size ≤ A.base := by have := hA.s_rd; have := hA.rd_buf; have := hA.buf_base; have := hA.lo_s; omega
    have h20 := hA.glob.size
    rw [rounds_succ, zz_round]
    refine wp_block ?_
    rw [zz_cut1]
    refine wp_seq (zz_call hA h.inv h.iv.pos hb' v a h.za _ (fun a1 w1 z1 i1 f1 => ?_))
    show (cutTail 1 zzIn).wp _ _ a1 w1
    have own1 := fr_own hA f1 h.own hlo
    rw [zz_cut]
    obtain ⟨x, rfl⟩ := z1.lit
    have hbase : A.base ≤ w1.heap.size := by obtain ⟨x0, hx, _⟩ := i1; exact hx.hsize
    have ne : ∀ k, k < A.base → v.ownBlock ≠ some k := fun k hk e => by have := (own_ety own1 e).1; omega
    refine wp_seq (zz_mid hA i1 (tabs_of i1) hk v n xs own1 hbase (by omega) (ne _ (by have := hA.s_rd; have := hA.rd_buf; have := hA.buf_base; omega)) (ne _ (by show 1 < _; omega)) (ne _ (by show 2 < _; omega)) _ x (fun k gg cap w2 a2 own2 grow hat lt tabs2 z2 => ?_))
    show (cutTail 2 zzIn).wp _ _ a2 w2
    have i2 := sinv_app i1 own1 grow
    refine zz_fin i2 _ a2 z2 _ (fun hne a3 z3 => ?_) (fun he ve a3 w3 e1 e2 e3 e4 ce d0 d4 d5 => ?_)
    · show Code.rounds Tryd.prog zzRound (Exit.inBlock 0 Q) m a3 w2
      refine zz_loop hA Q m (nextF A.src st).1 _ (n + 1) (xs ++ tokCells (nextF A.src st).1) a3 w2 ⟨i2, own2, z3, hI', hnb hne⟩ (by have := hlt hne; omega) (by omega) (fun v' ve a' w' o1 o2 o3 o4 o5 o6 => hQ v' ve a' w' ?_ ?_ o3 o4 o5 o6)
      · rw [toksN, if_neg hne]
        simp only [rowOf, flat, List.length_cons]
        rw [show n + ((toksN A.src m (nextF A.src st).1).length + 1) = n + 1 + (toksN A.src m (nextF A.src st).1).length by omega, ← List.append_assoc]
        exact o1
      · rw [lastN, if_neg hne]; exact o2
    · show Q .ret a3 w3
      have hB : Below w2.heap.size w2 w3 := ⟨e2, e3, e4, by rw [e1]; exact Nat.le_refl _, fun k _ => by rw [e1]⟩
      refine hQ _ ve a3 w3 ?_ ?_ ?_ d0 d4 d5
      · rw [toksN, if_pos he]
        simp only [rowOf, flat, List.length_cons, List.length_nil, List.append_nil]
        exact own_below hB own2
      · rw [lastN, if_pos he]; exact sinv_kept i2 (fun _ hx => kept_below hx hB)
      · rw [World.cell?_of_block (w := w2) (a := ⟨A.e, 0, none⟩) (by show w3.heap[A.e]? = w2.heap[A.e]?; rw [e1])]; exact ce
end Sc
end Go.Proofs.YtogkcphobhhbdaaDoor

/- ZZScan told whole. -/
namespace Go.Proofs.YtogkcphobhhbdaaDoor
open Go Go.RowKit Go.Lib
namespace Sc
open Ev
set_option maxRecDepth 100000
noncomputable abbrev zz0 : Code := fstC (cutTail 0 zzBody)
noncomputable abbrev zz1 : Code := fstC (cutTail 1 zzBody)
noncomputable abbrev zz2 : Code := fstC (cutTail 2 zzBody)
noncomputable abbrev zz3 : Code := fstC (cutTail 3 zzBody)
noncomputable abbrev zz4 : Code := fstC (cutTail 4 zzBody)
theorem zz_body : (Tryd.f30).body = some (.seq zz0 (.seq zz1 (.seq zz2 (.seq zz3 (.seq zz4 (.block 0 (.loop zzRound))))))) := by kernel_rfl
theorem w2I_size (w : World) : (w2I w).heap.size = w.heap.size + 2 := by simp [w2I, w1I]
theorem newR (w : World) (sb n scap : Nat) : Calls Tryd.prog 50 #[.slice (some ⟨sb, 0, none⟩) n scap] (w2I w) fun en w' => en = .returned (.pointer (some ⟨w.heap.size + 2, 0, none⟩)) ∧ w' = w3I w sb n scap := by
  have h := newReader_walk (w2I w) (.slice (some ⟨sb, 0, none⟩) n scap) rfl ⟨_, _, _, rfl⟩
  rw [w2I_size] at h
  exact h
theorem init4 (w : World) (sb n scap : Nat) (m : Int) : Calls Tryd.prog 49 #[.pointer (some ⟨w.heap.size + 1, 0, none⟩), .iface 91 (.pointer (some ⟨w.heap.size + 2, 0, none⟩)), .func (.func 51) #[] #[.pointer (some ⟨w.heap.size, 0, none⟩)], .int .u64 m] (w3I w sb n scap) fun en w' => en = .returned (.tuple #[]) ∧ w' = w4I w sb n scap m :=
  init_walk (w3I w sb n scap) (w.heap.size + 1) (w.heap.size + 2) w.heap.size m (w3I_s _ _ _ _)
theorem zz_first (w : World) (sb n scap : Nat) (m : Int) (B : Code) (Q : Exit → Act → World → Prop)
    (hQ : ∀ a, a.defers = [] → a.tmps.size = 46 → a.tmps[6]? = some (.pointer (some ⟨w.heap.size, 0, none⟩)) → a.tmps[7]? = some (.pointer (some ⟨w.heap.size + 1, 0, none⟩)) → a.tmps[8]? = some (.slice none 0 0) → B.wp Tryd.prog Q a (w4I w sb n scap m)) :
    (Code.seq zz0 (.seq zz1 (.seq zz2 (.seq zz3 (.seq zz4 B))))).wp Tryd.prog Q { tmps := #[.slice (some ⟨sb, 0, none⟩) n scap, .int .u64 m] ++ Array.replicate 44 undef, defers := [] } w := by
  have hN := newR w sb n scap
  have hI := init4 w sb n scap m
  simp only [zz0, zz1, zz2, zz3, zz4, fstC, zzBody, bodyOf, Tryd.f30, Option.getD, cutTail, cutN, Option.map, Array.replicate_succ, Array.replicate_zero, List.push_toArray, List.append_toArray, List.nil_append, List.cons_append]
  go_wp2_with (first | (refine hN.mono ?_; rintro en w' ⟨rfl, rfl⟩) | (refine hI.mono ?_; rintro en w' ⟨rfl, rfl⟩))
  exact hQ _ rfl rfl rfl rfl rfl
theorem zz_res {a : Act} {w : World} {v ve : Value} (h4 : a.tmps[4]? = some v) (h5 : a.tmps[5]? = some ve) : (results Tryd.f30 a.tmps).run Tryd.prog w = .ok (.tuple #[v, ve]) w := by
  have e : (Tryd.f30).results = #[.tmp 4, .tmp 5] := by kernel_rfl
  have e4 : a.tmps.getD 4 undef = v := by rw [Array.getD_eq_getD_getElem?, h4]; rfl
  have e5 : a.tmps.getD 5 undef = ve := by rw [Array.getD_eq_getD_getElem?, h5]; rfl
  simp [results, e, h4, h5, go_sem]
theorem zzscan {w0 w : World} {sb scap : Nat} {ea : Addr} {src : ByteArray} (h : Start w0 w sb scap ea src) (m : Int) :
    Calls Tryd.prog 30 #[.slice (some ⟨sb, 0, none⟩) src.size scap, .int .u64 m] w fun en w' => ∃ v ve, en = .returned (.tuple #[v, ve]) ∧
      w'.ownsRow (w.heap.size + 4) 57 9 v (toks src m).length (rowOf (toks src m)) ∧ w'.ownsRow (w.heap.size + 4) 59 3 ve (last src m).notes.length (noteCells (last src m).notes) ∧ Below w0.heap.size w0 w' := by
  have hA := start_ok h
  have hI := start_inv h m
  refine calls_of_wp Tryd.func30 zz_body ?_
  have hnt : (Tryd.f30).ntmps - (#[.slice (some ⟨sb, 0, none⟩) src.size scap, .int .u64 m] : Array Value).size = 44 := by kernel_rfl
  rw [hnt]
  refine zz_first w sb src.size scap m _ _ (fun a d0 ds d6 d7 d8 => ?_)
  refine wp_block (wp_loop_rounds (meas src (stI m) + 1) ?_)
  have hz : ZA (adOf w0 w sb scap ea src) (.slice none 0 0) a := ⟨d0, ds, d6, d7, d8⟩
  have hms : meas src (stI m) ≤ 8196 := by
    have hn : src.size ≤ 2048 := h.n
    have : left src (stI m) = 2 * (src.size - 0) + 1 := rfl
    unfold meas
    rw [if_neg (show ¬ (stI m).nlsemi = true from fun h => by cases h)]
    omega
  refine zz_loop hA _ (meas src (stI m) + 1) (stI m) (.slice none 0 0) 0 [] a _ ⟨hI, World.ownsRow_nil _ _ _ _, hz, iv_start src m h.n, nb_start m h.n⟩ (Nat.lt_succ_self _) (by omega) (fun v ve a' w' o1 o2 o3 o4 o5 o6 => ?_)
  obtain ⟨x, hx, ha⟩ := o2
  obtain ⟨u, hu, hr⟩ := hx.he
  have hue : u = ve := Option.some.inj ((cell_of_block hu (o := 0) (v := u) rfl).symm.trans o3)
  subst hue
  rw [notes_abs ha] at hr
  have o1' : w'.ownsRow (w.heap.size + 4) 57 9 v (toks src m).length (rowOf (toks src m)) := by
    have := o1
    rw [Nat.zero_add, List.nil_append] at this
    exact this
  exact ⟨o4, _, zz_res o5 o6, v, u, rfl, o1', hr, hx.below⟩
end Sc
end Go.Proofs.YtogkcphobhhbdaaDoor

/- impl.Scan: its first loop. -/
namespace Go.Proofs.YtogkcphobhhbdaaDoor
open Go Go.RowKit Go.Lib
namespace Sc
open Ev
set_option maxRecDepth 100000
theorem tmpsN (N : Nat) (t : Array Value) (h : t.size = N) : t = ((List.range N).map fun i => t.getD i undef).toArray := by
  apply Array.ext_getElem?
  intro i
  simp only [List.getElem?_toArray, List.getElem?_map]
  by_cases hi : i < N
  · rw [List.getElem?_range hi]
    simp [h, hi]
  · rw [Array.getElem?_eq_none (by omega), List.getElem?_eq_none (by simp; omega)]; rfl
/-- Known slots of a frame of 74. -/
structure SA (ve vo vr vn vi : Value) (a : Act) : Prop where
  defers : a.defers = []
  size : a.tmps.size = 74
  s7 : a.tmps[7]? = some ve
  s8 : a.tmps[8]? = some vo
  s22 : a.tmps[22]? = some vr
  s23 : a.tmps[23]? = some vn
  s24 : a.tmps[24]? = some vi
theorem SA.lit {ve vo vr vn vi : Value} {a : Act} (h : SA ve vo vr vn vi a) : ∃ x : Nat → Value, a = { tmps := #[x 0, x 1, x 2, x 3, x 4, x 5, x 6, ve, vo, x 9, x 10, x 11, x 12, x 13, x 14, x 15, x 16, x 17, x 18, x 19, x 20, x 21, vr, vn, vi, x 25, x 26, x 27, x 28, x 29, x 30, x 31, x 32, x 33, x 34, x 35, x 36, x 37, x 38, x 39, x 40, x 41, x 42, x 43, x 44, x 45, x 46, x 47, x 48, x 49, x 50, x 51, x 52, x 53, x 54, x 55, x 56, x 57, x 58, x 59, x 60, x 61, x 62, x 63, x 64, x 65, x 66, x 67, x 68, x 69, x 70, x 71, x 72, x 73], defers := [] } := by
  refine ⟨fun i => a.tmps.getD i undef, ?_⟩
  obtain ⟨t, d⟩ := a
  obtain ⟨h1, h2, k7, k8, k22, k23, k24⟩ := h
  simp only at h1 h2 k7 k8 k22 k23 k24
  subst h1
  have e7 : t.getD 7 undef = ve := by rw [Array.getD_eq_getD_getElem?, k7]; rfl
  have e8 : t.getD 8 undef = vo := by rw [Array.getD_eq_getD_getElem?, k8]; rfl
  have e22 : t.getD 22 undef = vr := by rw [Array.getD_eq_getD_getElem?, k22]; rfl
  have e23 : t.getD 23 undef = vn := by rw [Array.getD_eq_getD_getElem?, k23]; rfl
  have e24 : t.getD 24 undef = vi := by rw [Array.getD_eq_getD_getElem?, k24]; rfl
  have ht := tmpsN 74 t h2
  rw [← e7, ← e8, ← e22, ← e23, ← e24]
  exact congrArg (fun t => ({ tmps := t, defers := [] } : Act)) ht
theorem SA.of {ve vo vr vn vi : Value} (x : Nat → Value) : SA ve vo vr vn vi { tmps := #[x 0, x 1, x 2, x 3, x 4, x 5, x 6, ve, vo, x 9, x 10, x 11, x 12, x 13, x 14, x 15, x 16, x 17, x 18, x 19, x 20, x 21, vr, vn, vi, x 25, x 26, x 27, x 28, x 29, x 30, x 31, x 32, x 33, x 34, x 35, x 36, x 37, x 38, x 39, x 40, x 41, x 42, x 43, x 44, x 45, x 46, x 47, x 48, x 49, x 50, x 51, x 52, x 53, x 54, x 55, x 56, x 57, x 58, x 59, x 60, x 61, x 62, x 63, x 64, x 65, x 66, x 67, x 68, x 69, x 70, x 71, x 72, x 73], defers := [] } := ⟨rfl, rfl, rfl, rfl, rfl, rfl, rfl⟩
noncomputable abbrev scBody : Code := bodyOf Tryd.f15
noncomputable abbrev scLoop : Code := loopOf (blkOf scBody 0)
/-- A token as it is handed on. -/
def outCells (st : St) : List Value := [.int .i64 (wrap64 st.line), .int .i64 (wrap64 st.col), .bool st.blank, .string (tokWord st.tok.toNat), .string st.lit, .bool st.bad, .int .i64 (wrap64 st.kind), .string (opStr st.op), .int .i64 st.prec]
theorem info_out : (Tryd.prog.info? 27).map (fun i => (i.zero, i.size, i.bytes)) = some (some (.agg #[.int .i64 0, .int .i64 0, .bool false, .string ⟨#[]⟩, .string ⟨#[]⟩, .bool false, .int .i64 0, .string ⟨#[]⟩, .int .i64 0]), 9, 96) := by kernel_rfl
/-- A token is appended to those handed on. -/
theorem sc_app {w : World} {o1 : Obj} {base n : Nat} {v : Value} {xs : List Value} {st : St} (hown : w.ownsRow base 27 9 v n xs) (hbase : base ≤ w.heap.size) (hn : n ≤ 1000000)
    {ops : Array Oper} {rest : List Oper} {o : Oper} {a : Act} {Q : Exit → Act → World → Prop} (hgd : o.guard = none) (s x : Operand)
    (ho : o.op = .call { callee := .builtin .append, args := #[s, x], argTypes := #[22, 22] }) (hs : a.eval s = v) (hx : a.eval x = .slice (some ⟨w.heap.size + 1, 0, none⟩) 1 1)
    (h : ∀ g cap w', w'.ownsRow base 27 9 (.slice (some ⟨g, 0, none⟩) (n + 1) cap) (n + 1) (xs ++ outCells st) → ((w.alloc o1).alloc (.cells (outCells st).toArray 27)).grownBy w' v.ownBlock → wpList Tryd.prog ops Q rest (a.put o.dst (.slice (some ⟨g, 0, none⟩) (n + 1) cap)) w') :
    wpList Tryd.prog ops Q (o :: rest) a ((w.alloc o1).alloc (.cells (outCells st).toArray 27)) := by
  obtain ⟨i0, hi0, hz0, hz1, hz2⟩ := info_parts info_out
  have hsz : ((w.alloc o1).alloc (.cells (outCells st).toArray 27)).heap.size = w.heap.size + 2 := by simp
  have hsz1 : (w.alloc o1).heap.size = w.heap.size + 1 := by simp
  have hlen : (outCells st).length = 9 := rfl
  have hml : n + 1 ≤ maxLen := by simp only [maxLen]; omega
  have hone : ∀ u ∈ outCells st, u.oneCell' = true := by simp [outCells, Value.oneCell']
  have hnews := World.news_of_block (cs := (outCells st).toArray) (t := 27) (fr := (0, 0)) (heap_alloc_new (w.alloc o1) (.cells (outCells st).toArray 27))
  rw [hsz1] at hnews
  exact wpList_append_lies _ hgd s x 22 ho base 27 i0 _ 9 96 Tryd.underlying22 hi0 hz0 hz1 hz2 rfl (by omega) v n xs hs (own_alloc (own_alloc hown _) _)
    ⟨w.heap.size + 1, 0, none⟩ 1 1 (outCells st) hx hlen hnews hone
    (by omega) hml (by omega) (by rw [hsz]; omega) (w.heap.size + 2) hsz (fun g cap w' h1 h2 _ _ => h g cap w' h1 h2)
set_option maxHeartbeats 3200000 in
theorem sc_round {w : World} {st : St} {g cap n i base : Nat} {ve vo : Value} {xs : List Value} (hi : i < n) (hn : n ≤ 1000000) (hown : w.ownsRow base 27 9 vo i xs) (hbase : base ≤ w.heap.size)
    (c0 : w.cell? ⟨g, i * 9, none⟩ = some (.int .u64 st.line)) (c1 : w.cell? ⟨g, i * 9 + 1, none⟩ = some (.int .u64 st.col)) (c2 : w.cell? ⟨g, i * 9 + 2, none⟩ = some (.bool st.blank)) (c3 : w.cell? ⟨g, i * 9 + 3, none⟩ = some (.string (tokWord st.tok.toNat)))
    (c4 : w.cell? ⟨g, i * 9 + 4, none⟩ = some (.string st.lit)) (c5 : w.cell? ⟨g, i * 9 + 5, none⟩ = some (.bool st.bad)) (c6 : w.cell? ⟨g, i * 9 + 6, none⟩ = some (.int .i64 (IntKind.i64.wrap st.kind))) (c7 : w.cell? ⟨g, i * 9 + 7, none⟩ = some (.string (opStr st.op))) (c8 : w.cell? ⟨g, i * 9 + 8, none⟩ = some (.int .i64 st.prec))
    (a : Act) (hz : SA ve vo (.slice (some ⟨g, 0, none⟩) n cap) (.int .i64 n) (.int .i64 i) a) (Q : Exit → Act → World → Prop)
    (hQ : ∀ o1 vo' a' w', SA ve vo' (.slice (some ⟨g, 0, none⟩) n cap) (.int .i64 n) (.int .i64 (i + 1 : Nat)) a' → w'.ownsRow base 27 9 vo' (i + 1) (xs ++ outCells st) → ((w.alloc o1).alloc (.cells (outCells st).toArray 27)).grownBy w' vo.ownBlock → Q .normal a' w') : scLoop.wp Tryd.prog Q a w := by
  obtain ⟨x, rfl⟩ := hz.lit
  clear hz
  have hi0 : (0 : Int) ≤ (i : Int) := by omega
  have hi1 : (i : Int) < (n : Int) := by omega
  simp only [scLoop, scBody, bodyOf, Tryd.f15, Option.getD, blkOf, loopOf, cond, Nat.beq]
  go_wp2_with (at_builtin; go_loud (refine sc_app (st := st) hown hbase (by omega) (by rfl) _ _ (by rfl) (by rfl) (by rfl) ?_); intro gg cap' w1 hown1 hgrow)
  exact hQ _ _ _ _ ⟨rfl, rfl, rfl, rfl, rfl, rfl, rfl⟩ hown1 hgrow
theorem sc_out {w : World} {n : Nat} {ve vo vr : Value} (a : Act) (hz : SA ve vo vr (.int .i64 n) (.int .i64 n) a) (Q : Exit → Act → World → Prop)
    (hQ : ∀ a', SA ve vo vr (.int .i64 n) (.int .i64 n) a' → Q (.exit 0) a' w) : scLoop.wp Tryd.prog Q a w := by
  obtain ⟨x, rfl⟩ := hz.lit
  clear hz
  simp only [scLoop, scBody, bodyOf, Tryd.f15, Option.getD, blkOf, loopOf, cond, Nat.beq]
  have hlt : ¬ ((n : Int) < (n : Int)) := by omega
  go_wp2_with fail
  exact ⟨rfl, rfl, rfl, rfl, rfl, rfl, rfl⟩
/-- Old blocks are as they were, behind new ones and an append to a row of the call's own. -/
theorem below_grown {B : Nat} {w0 w w1 : World} {o1 o2 : Obj} {row : Option Nat} (h : Below B w0 w) (hB : B ≤ w.heap.size) (hg : ((w.alloc o1).alloc o2).grownBy w1 row) (hr : ∀ k, row = some k → B ≤ k) : Below B w0 w1 := by
  have h1 := Below.alloc h hB o1
  have h2 := Below.alloc h1 (by simp; omega) o2
  refine h2.trans ⟨hg.os, hg.tape, hg.output, hg.size, fun k hk => hg.block k (by simp; omega) (fun e => ?_)⟩
  have := hr k e.symm; omega
theorem own_row_cell {w : World} {base n g cap : Nat} {e : TypeId} {sz : Nat} {xs : List Value} {j : Nat} {u : Value} (h : w.ownsRow base e sz (.slice (some ⟨g, 0, none⟩) n cap) n xs) (hj : xs[j]? = some u) : w.cell? ⟨g, j, none⟩ = some u := by
  have := h.cells (g := g) rfl j u hj
  have e : (⟨g, 0, none⟩ : Addr).add j = ⟨g, j, none⟩ := by unfold Addr.add; split <;> simp_all
  rw [e] at this; exact this
theorem sc_loop (L : List St) {wS : World} {g cap b0 : Nat} {ve : Value} (hL : L.length ≤ 1000000) (hrow : wS.ownsRow b0 57 9 (.slice (some ⟨g, 0, none⟩) L.length cap) L.length (rowOf L)) (Q : Exit → Act → World → Prop)
    (hQ : ∀ vo a w, SA ve vo (.slice (some ⟨g, 0, none⟩) L.length cap) (.int .i64 L.length) (.int .i64 L.length) a → w.ownsRow wS.heap.size 27 9 vo L.length (flat outCells L) → Below wS.heap.size wS w → Q .normal a w) :
    ∀ (d i : Nat) (vo : Value) (a : Act) (w : World), i + d = L.length → SA ve vo (.slice (some ⟨g, 0, none⟩) L.length cap) (.int .i64 L.length) (.int .i64 i) a → w.ownsRow wS.heap.size 27 9 vo i (flat outCells (L.take i)) → Below wS.heap.size wS w →
      Code.rounds Tryd.prog scLoop (Exit.inBlock 0 Q) (d + 1) a w
  | 0, i, vo, a, w, hi, hz, hown, hB => by
    have hi : i = L.length := by omega
    subst hi
    rw [rounds_succ]
    refine sc_out a hz _ (fun a' z' => ?_)
    show Q .normal a' w
    rw [List.take_length] at hown
    exact hQ vo a' w z' hown hB
  | d + 1, i, vo, a, w, hi, hz, hown, hB => by
    have hlt : i < L.length := by omega
    obtain ⟨s, hs⟩ : ∃ s, L[i]? = some s := ⟨L[i], List.getElem?_eq_getElem hlt⟩
    have cell : ∀ j u, j < 9 → (tokCells s)[j]? = some u → w.cell? ⟨g, i * 9 + j, none⟩ = some u := fun j u hj hu => by
      have h1 : (rowOf L)[i * 9 + j]? = some u := (flat_get (k := 9) (fun _ => rfl) L i j s hs hj).trans hu
      have h2 := own_row_cell hrow h1
      rw [World.cell?_of_block (w := wS) (a := ⟨g, i * 9 + j, none⟩) (hB.block _ (World.block_lt_of_cell? _ _ h2))]
      exact h2
    have hbase : wS.heap.size ≤ w.heap.size := hB.size
    rw [rounds_succ]
    refine sc_round (st := s) hlt hL hown hbase (by have := cell 0 _ (by decide) rfl; exact this) (cell 1 _ (by decide) rfl) (cell 2 _ (by decide) rfl) (cell 3 _ (by decide) rfl) (cell 4 _ (by decide) rfl) (cell 5 _ (by decide) rfl) (cell 6 _ (by decide) rfl) (cell 7 _ (by decide) rfl) (cell 8 _ (by decide) rfl) a hz _ (fun o1 vo' a' w' z' own' grow => ?_)
    show Code.rounds Tryd.prog scLoop (Exit.inBlock 0 Q) (d + 1) a' w'
    refine sc_loop L hL hrow Q hQ d (i + 1) vo' a' w' (by omega) z' ?_ (below_grown hB hbase grow (fun k hk => (own_ety hown hk).1))
    rw [List.take_add_one, hs]
    simp only [Option.toList, flat_append, flat, List.append_nil]
    exact own'
end Sc
end Go.Proofs.YtogkcphobhhbdaaDoor

/- impl.Scan: its second loop. -/
namespace Go.Proofs.YtogkcphobhhbdaaDoor
open Go Go.RowKit Go.Lib
namespace Sc
open Ev
set_option maxRecDepth 100000
/-- Known slots of a frame of 74. -/
structure SB (vt vo vr vn vi : Value) (a : Act) : Prop where
  defers : a.defers = []
  size : a.tmps.size = 74
  s8 : a.tmps[8]? = some vt
  s11 : a.tmps[11]? = some vo
  s53 : a.tmps[53]? = some vr
  s54 : a.tmps[54]? = some vn
  s55 : a.tmps[55]? = some vi
theorem SB.lit {vt vo vr vn vi : Value} {a : Act} (h : SB vt vo vr vn vi a) : ∃ x : Nat → Value, a = { tmps := #[x 0, x 1, x 2, x 3, x 4, x 5, x 6, x 7, vt, x 9, x 10, vo, x 12, x 13, x 14, x 15, x 16, x 17, x 18, x 19, x 20, x 21, x 22, x 23, x 24, x 25, x 26, x 27, x 28, x 29, x 30, x 31, x 32, x 33, x 34, x 35, x 36, x 37, x 38, x 39, x 40, x 41, x 42, x 43, x 44, x 45, x 46, x 47, x 48, x 49, x 50, x 51, x 52, vr, vn, vi, x 56, x 57, x 58, x 59, x 60, x 61, x 62, x 63, x 64, x 65, x 66, x 67, x 68, x 69, x 70, x 71, x 72, x 73], defers := [] } := by
  refine ⟨fun i => a.tmps.getD i undef, ?_⟩
  obtain ⟨t, d⟩ := a
  obtain ⟨h1, h2, k8, k11, k53, k54, k55⟩ := h
  simp only at h1 h2 k8 k11 k53 k54 k55
  subst h1
  have e8 : t.getD 8 undef = vt := by rw [Array.getD_eq_getD_getElem?, k8]; rfl
  have e11 : t.getD 11 undef = vo := by rw [Array.getD_eq_getD_getElem?, k11]; rfl
  have e53 : t.getD 53 undef = vr := by rw [Array.getD_eq_getD_getElem?, k53]; rfl
  have e54 : t.getD 54 undef = vn := by rw [Array.getD_eq_getD_getElem?, k54]; rfl
  have e55 : t.getD 55 undef = vi := by rw [Array.getD_eq_getD_getElem?, k55]; rfl
  have ht := tmpsN 74 t h2
  rw [← e8, ← e11, ← e53, ← e54, ← e55]
  exact congrArg (fun t => ({ tmps := t, defers := [] } : Act)) ht
theorem SB.of {vt vo vr vn vi : Value} (x : Nat → Value) : SB vt vo vr vn vi { tmps := #[x 0, x 1, x 2, x 3, x 4, x 5, x 6, x 7, vt, x 9, x 10, vo, x 12, x 13, x 14, x 15, x 16, x 17, x 18, x 19, x 20, x 21, x 22, x 23, x 24, x 25, x 26, x 27, x 28, x 29, x 30, x 31, x 32, x 33, x 34, x 35, x 36, x 37, x 38, x 39, x 40, x 41, x 42, x 43, x 44, x 45, x 46, x 47, x 48, x 49, x 50, x 51, x 52, vr, vn, vi, x 56, x 57, x 58, x 59, x 60, x 61, x 62, x 63, x 64, x 65, x 66, x 67, x 68, x 69, x 70, x 71, x 72, x 73], defers := [] } := ⟨rfl, rfl, rfl, rfl, rfl, rfl, rfl⟩
noncomputable abbrev snLoop : Code := loopOf (blkOf scBody 2)
def inNote (n : Note) : List Value := [.int .u64 n.line, .int .u64 n.col, .string n.msg]
/-- A note as it is handed on. -/
def outNote (n : Note) : List Value := [.int .i64 (wrap64 n.line), .int .i64 (wrap64 n.col), .string n.msg]
theorem noteCells_flat : ∀ L : List Note, noteCells L = flat inNote L
  | [] => rfl
  | n :: r => by simp [noteCells, flat, inNote, noteCells_flat r]
theorem info_note : (Tryd.prog.info? 61).map (fun i => (i.zero, i.size, i.bytes)) = some (some (.agg #[.int .i64 0, .int .i64 0, .string ⟨#[]⟩]), 3, 32) := by kernel_rfl
theorem sn_app {w : World} {o1 : Obj} {base n : Nat} {v : Value} {xs : List Value} {st : Note} (hown : w.ownsRow base 61 3 v n xs) (hbase : base ≤ w.heap.size) (hn : n ≤ 60000000)
    {ops : Array Oper} {rest : List Oper} {o : Oper} {a : Act} {Q : Exit → Act → World → Prop} (hgd : o.guard = none) (s x : Operand)
    (ho : o.op = .call { callee := .builtin .append, args := #[s, x], argTypes := #[23, 23] }) (hs : a.eval s = v) (hx : a.eval x = .slice (some ⟨w.heap.size + 1, 0, none⟩) 1 1)
    (h : ∀ g cap w', w'.ownsRow base 61 3 (.slice (some ⟨g, 0, none⟩) (n + 1) cap) (n + 1) (xs ++ outNote st) → ((w.alloc o1).alloc (.cells (outNote st).toArray 61)).grownBy w' v.ownBlock → wpList Tryd.prog ops Q rest (a.put o.dst (.slice (some ⟨g, 0, none⟩) (n + 1) cap)) w') :
    wpList Tryd.prog ops Q (o :: rest) a ((w.alloc o1).alloc (.cells (outNote st).toArray 61)) := by
  obtain ⟨i0, hi0, hz0, hz1, hz2⟩ := info_parts info_note
  have hsz : ((w.alloc o1).alloc (.cells (outNote st).toArray 61)).heap.size = w.heap.size + 2 := by simp
  have hsz1 : (w.alloc o1).heap.size = w.heap.size + 1 := by simp
  have hlen : (outNote st).length = 3 := rfl
  have hml : n + 1 ≤ maxLen := by simp only [maxLen]; omega
  have hone : ∀ u ∈ outNote st, u.oneCell' = true := by simp [outNote, Value.oneCell']
  have hnews := World.news_of_block (cs := (outNote st).toArray) (t := 61) (fr := (0, 0)) (heap_alloc_new (w.alloc o1) (.cells (outNote st).toArray 61))
  rw [hsz1] at hnews
  exact wpList_append_lies _ hgd s x 23 ho base 61 i0 _ 3 32 Tryd.underlying23 hi0 hz0 hz1 hz2 rfl (by omega) v n xs hs (own_alloc (own_alloc hown _) _)
    ⟨w.heap.size + 1, 0, none⟩ 1 1 (outNote st) hx hlen hnews hone
    (by omega) hml (by omega) (by rw [hsz]; omega) (w.heap.size + 2) hsz (fun g cap w' h1 h2 _ _ => h g cap w' h1 h2)
set_option maxHeartbeats 3200000 in
theorem sn_round {w : World} {st : Note} {g cap n i base : Nat} {vt vo : Value} {xs : List Value} (hi : i < n) (hn : n ≤ 60000000) (hown : w.ownsRow base 61 3 vo i xs) (hbase : base ≤ w.heap.size)
    (c0 : w.cell? ⟨g, i * 3, none⟩ = some (.int .u64 st.line)) (c1 : w.cell? ⟨g, i * 3 + 1, none⟩ = some (.int .u64 st.col)) (c2 : w.cell? ⟨g, i * 3 + 2, none⟩ = some (.string st.msg))
    (a : Act) (hz : SB vt vo (.slice (some ⟨g, 0, none⟩) n cap) (.int .i64 n) (.int .i64 i) a) (Q : Exit → Act → World → Prop)
    (hQ : ∀ o1 vo' a' w', SB vt vo' (.slice (some ⟨g, 0, none⟩) n cap) (.int .i64 n) (.int .i64 (i + 1 : Nat)) a' → w'.ownsRow base 61 3 vo' (i + 1) (xs ++ outNote st) → ((w.alloc o1).alloc (.cells (outNote st).toArray 61)).grownBy w' vo.ownBlock → Q .normal a' w') : snLoop.wp Tryd.prog Q a w := by
  obtain ⟨x, rfl⟩ := hz.lit
  clear hz
  have hi0 : (0 : Int) ≤ (i : Int) := by omega
  have hi1 : (i : Int) < (n : Int) := by omega
  simp only [snLoop, scBody, bodyOf, Tryd.f15, Option.getD, blkOf, loopOf, cond, Nat.beq]
  go_wp2_with (at_builtin; refine sn_app (st := st) hown hbase (by omega) (by rfl) _ _ (by rfl) (by rfl) (by rfl) ?_; intro gg cap' w1 hown1 hgrow)
  exact hQ _ _ _ _ ⟨rfl, rfl, rfl, rfl, rfl, rfl, rfl⟩ hown1 hgrow
theorem sn_out {w : World} {n : Nat} {vt vo vr : Value} (a : Act) (hz : SB vt vo vr (.int .i64 n) (.int .i64 n) a) (Q : Exit → Act → World → Prop)
    (hQ : ∀ a', SB vt vo vr (.int .i64 n) (.int .i64 n) a' → Q (.exit 2) a' w) : snLoop.wp Tryd.prog Q a w := by
  obtain ⟨x, rfl⟩ := hz.lit
  clear hz
  simp only [snLoop, scBody, bodyOf, Tryd.f15, Option.getD, blkOf, loopOf, cond, Nat.beq]
  have hlt : ¬ ((n : Int) < (n : Int)) := by omega
  go_wp2_with fail
  exact ⟨rfl, rfl, rfl, rfl, rfl, rfl, rfl⟩
theorem sn_loop (L : List Note) {wS : World} {b0 : Nat} {vt vr : Value} (hL : L.length ≤ 60000000) (hrow : wS.ownsRow b0 59 3 vr L.length (noteCells L)) (Q : Exit → Act → World → Prop)
    (hQ : ∀ vo a w, SB vt vo vr (.int .i64 L.length) (.int .i64 L.length) a → w.ownsRow wS.heap.size 61 3 vo L.length (flat outNote L) → Below wS.heap.size wS w → Q .normal a w) :
    ∀ (d i : Nat) (vo : Value) (a : Act) (w : World), i + d = L.length → SB vt vo vr (.int .i64 L.length) (.int .i64 i) a → w.ownsRow wS.heap.size 61 3 vo i (flat outNote (L.take i)) → Below wS.heap.size wS w →
      Code.rounds Tryd.prog snLoop (Exit.inBlock 2 Q) (d + 1) a w
  | 0, i, vo, a, w, hi, hz, hown, hB => by
    have hi : i = L.length := by omega
    subst hi
    rw [rounds_succ]
    refine sn_out a hz _ (fun a' z' => ?_)
    show Q .normal a' w
    rw [List.take_length] at hown
    exact hQ vo a' w z' hown hB
  | d + 1, i, vo, a, w, hi, hz, hown, hB => by
    have hlt : i < L.length := by omega
    obtain ⟨s, hs⟩ : ∃ s, L[i]? = some s := ⟨L[i], List.getElem?_eq_getElem hlt⟩
    obtain ⟨g, cap, hv, _, _⟩ := hrow.form (by omega)
    have hrow2 := hrow
    rw [hv] at hrow2 hz
    have cell : ∀ j u, j < 3 → (inNote s)[j]? = some u → w.cell? ⟨g, i * 3 + j, none⟩ = some u := fun j u hj hu => by
      have h1 : (noteCells L)[i * 3 + j]? = some u := by rw [noteCells_flat]; exact (flat_get (k := 3) (fun _ => rfl) L i j s hs hj).trans hu
      have h2 := own_row_cell hrow2 h1
      rw [World.cell?_of_block (w := wS) (a := ⟨g, i * 3 + j, none⟩) (hB.block _ (World.block_lt_of_cell? _ _ h2))]
      exact h2
    have hbase : wS.heap.size ≤ w.heap.size := hB.size
    rw [rounds_succ]
    refine sn_round (st := s) hlt hL hown hbase (by have := cell 0 _ (by decide) rfl; exact this) (cell 1 _ (by decide) rfl) (cell 2 _ (by decide) rfl) a hz _ (fun o1 vo' a' w' z' own' grow => ?_)
    show Code.rounds Tryd.prog snLoop (Exit.inBlock 2 Q) (d + 1) a' w'
    rw [← hv] at z'
    refine sn_loop L hL hrow Q hQ d (i + 1) vo' a' w' (by omega) z' ?_ (below_grown hB hbase grow (fun k hk => (own_ety hown hk).1))
    rw [List.take_add_one, hs]
    simp only [Option.toList, flat_append, flat, List.append_nil]
    exact own'
end Sc
end Go.Proofs.YtogkcphobhhbdaaDoor

/- impl.Scan told whole. -/
namespace Go.Proofs.YtogkcphobhhbdaaDoor
open Go Go.RowKit Go.Lib
namespace Sc
open Ev
set_option maxRecDepth 100000
noncomputable abbrev sP (n : Nat) : Code := fstC (cutTail n scBody)
theorem sc_body : (Tryd.f15).body = some (.seq (sP 0) (.seq (sP 1) (.seq (sP 2) (.seq (.seq (fstC (sP 3)) (.block 0 (.loop scLoop))) (cutTail 4 scBody))))) := by kernel_rfl
theorem sc_body2 : cutTail 4 scBody = .seq (sP 4) (.seq (.seq (fstC (sP 5)) (.block 2 (.loop snLoop))) (cutTail 6 scBody)) := by kernel_rfl
/-- The world in which the bytes lie. -/
noncomputable def wB (w : World) (src : ByteArray) : World := w.drew.alloc (.cells (bytesRow src (grownCap w src.size 0 5)) 5 ((bytesRow src (grownCap w src.size 0 5)).size, (bytesRow src (grownCap w src.size 0 5)).size + 1))
theorem start_of {w : World} {ea : Addr} {src : ByteArray} (hG : Glob w ea) (hn : src.size ≤ 2048) : Start w (wB w src) w.heap.size (grownCap w src.size 0 5) ea src := by
  have hsz : (wB w src).heap.size = w.heap.size + 1 := by simp [wB]
  refine ⟨hG, hn, ?_, Nat.le_refl _, by rw [hsz]; omega, fun j hj => ?_⟩
  · exact Below.alloc (Below.drew (Below.refl _ _)) (Nat.le_refl _) _
  · have hb : (wB w src).heap[w.heap.size]? = some (.cells (bytesRow src (grownCap w src.size 0 5)) 5 ((bytesRow src (grownCap w src.size 0 5)).size, (bytesRow src (grownCap w src.size 0 5)).size + 1)) := heap_alloc_new w.drew _
    rw [cell_of_block' hb]
    have hj' : j < src.data.size := hj
    rw [bytesRow, Array.getElem?_append_left (by simpa using hj')]
    simp only [Array.getElem?_map, Array.getElem?_eq_getElem hj', Option.map_some]
    show _ = some (Value.int .u8 ((src.data[j]!).toNat : Int))
    rw [getElem!_pos src.data j hj']
theorem bytes_conv (w : World) (src : ByteArray) : (convert 9 45 (.string src)).run Tryd.prog w = .ok (.slice (some ⟨w.heap.size, 0, none⟩) src.size (grownCap w src.size 0 5)) (wB w src) :=
  run_bytes_of_string w 9 45 5 src Tryd.underlying9 Tryd.underlying45 Tryd.underlying5
set_option maxHeartbeats 1600000 in
theorem sc_first {w : World} {ea : Addr} {src : ByteArray} (hG : Glob w ea) (hn : src.size ≤ 2048) (m : Int) (B C : Code) (Q : Exit → Act → World → Prop)
    (hQ : ∀ g cap ve a w', w'.ownsRow ((wB w src).heap.size + 4) 57 9 (.slice (some ⟨g, 0, none⟩) (toks src (IntKind.u64.wrap m)).length cap) (toks src (IntKind.u64.wrap m)).length (rowOf (toks src (IntKind.u64.wrap m))) → w'.ownsRow ((wB w src).heap.size + 4) 59 3 ve (last src (IntKind.u64.wrap m)).notes.length (noteCells (last src (IntKind.u64.wrap m)).notes) → Below w.heap.size w w' →
      SA ve (.slice none 0 0) (.slice (some ⟨g, 0, none⟩) (toks src (IntKind.u64.wrap m)).length cap) (.int .i64 (toks src (IntKind.u64.wrap m)).length) (.int .i64 (0 : Nat)) a → B.wp Tryd.prog (Exit.then (fun a w => C.wp Tryd.prog Q a w) Q) a w') :
    (Code.seq (sP 0) (.seq (sP 1) (.seq (sP 2) (.seq (.seq (fstC (sP 3)) B) C)))).wp Tryd.prog Q { tmps := #[.string src, .int .i64 m] ++ Array.replicate 72 undef, defers := [] } w := by
  have hZ := zzscan (start_of hG hn) (IntKind.u64.wrap m)
  have hc := bytes_conv w src
  have hlen := (toks_good (IntKind.u64.wrap m) hn).ne
  simp only [sP, fstC, scBody, bodyOf, Tryd.f15, Option.getD, cutTail, cutN, Option.map, Array.replicate_succ, Array.replicate_zero, List.push_toArray, List.append_toArray, List.nil_append, List.cons_append]
  go_wp2_with (first | (rw [hc]; go_simp) | (go_at_call 30; refine hZ.mono ?_; rintro en w' ⟨v, ve, rfl, h1, h2, h3⟩; obtain ⟨g, cap, rfl, _, _⟩ := h1.form (List.length_pos_iff.2 hlen)))
  rename_i K hK
  refine Code.wp_mono (fun e a w h => ?_) (hQ g cap ve _ w' h1 h2 h3 ⟨rfl, rfl, rfl, rfl, rfl, rfl, rfl⟩)
  cases e <;> first | exact hK _ _ h | exact h
theorem own_weak {w : World} {b b' n : Nat} {e : TypeId} {sz : Nat} {v : Value} {xs : List Value} (h : w.ownsRow b' e sz v n xs) (hb : b ≤ b') : w.ownsRow b e sz v n xs := by
  obtain ⟨h1, h2⟩ := h
  refine ⟨h1, ?_⟩
  rcases h2 with h2 | ⟨g, cap, cur, hv, hg, r⟩
  · exact .inl h2
  · exact .inr ⟨g, cap, cur, hv, by omega, r⟩
theorem below_weak {b b' : Nat} {w w' : World} (h : Below b' w w') (hb : b ≤ b') : Below b w w' := ⟨h.os, h.tape, h.output, h.size, fun k hk => h.block k (by omega)⟩
theorem ve_len {w : World} {b0 n : Nat} {ve : Value} {xs : List Value} (h : w.ownsRow b0 59 3 ve n xs) : ∃ b cap, ve = .slice b n cap := by
  rcases h.2 with ⟨rfl, rfl⟩ | ⟨g, cap, cur, rfl, _⟩
  · exact ⟨_, _, rfl⟩
  · exact ⟨_, _, rfl⟩
set_option maxHeartbeats 1600000 in
theorem sc_second {w : World} {b0 n : Nat} {ve vo vr vn vi : Value} {xs : List Value} (h : w.ownsRow b0 59 3 ve n xs) (a : Act) (hz : SA ve vo vr vn vi a) (B C : Code) (Q : Exit → Act → World → Prop)
    (hQ : ∀ a, SB vo (.slice none 0 0) ve (.int .i64 n) (.int .i64 (0 : Nat)) a → B.wp Tryd.prog (Exit.then (fun a w => C.wp Tryd.prog Q a w) Q) a w) :
    (Code.seq (sP 4) (.seq (.seq (fstC (sP 5)) B) C)).wp Tryd.prog Q a w := by
  obtain ⟨b, cap, rfl⟩ := ve_len h
  clear h
  obtain ⟨x, rfl⟩ := hz.lit
  clear hz
  simp only [sP, fstC, scBody, bodyOf, Tryd.f15, Option.getD, cutTail, cutN, Option.map]
  go_wp2_with fail
  rename_i K hK
  refine Code.wp_mono (fun e a w h => ?_) (hQ _ ⟨rfl, rfl, rfl, rfl, rfl, rfl, rfl⟩)
  cases e <;> first | exact hK _ _ h | exact h
theorem sc_third {w : World} {vt vo vr vn vi : Value} (a : Act) (hz : SB vt vo vr vn vi a) (Q : Exit → Act → World → Prop)
    (hQ : ∀ a', a'.defers = [] → a'.tmps[4]? = some vt → a'.tmps[5]? = some vo → Q .ret a' w) : (cutTail 6 scBody).wp Tryd.prog Q a w := by
  obtain ⟨x, rfl⟩ := hz.lit
  clear hz
  simp only [scBody, bodyOf, Tryd.f15, Option.getD, cutTail, cutN, Option.map]
  go_wp2_with fail
  all_goals first | exact hQ _ rfl rfl rfl | exact rfl
theorem sc_res {a : Act} {w : World} {v ve : Value} (h4 : a.tmps[4]? = some v) (h5 : a.tmps[5]? = some ve) : (results Tryd.f15 a.tmps).run Tryd.prog w = .ok (.tuple #[v, ve]) w := by
  have e : (Tryd.f15).results = #[.tmp 4, .tmp 5] := by kernel_rfl
  simp [results, e, h4, h5, go_sem]
/-- impl.Scan: the tokens, and what was told. -/
theorem scan_walk {w : World} {ea : Addr} {src : ByteArray} (hG : Glob w ea) (hn : src.size ≤ 2048) (m : Int) :
    Calls Tryd.prog 15 #[.string src, .int .i64 m] w fun en w' => ∃ v ve, en = .returned (.tuple #[v, ve]) ∧
      w'.ownsRow w.heap.size 27 9 v (toks src (IntKind.u64.wrap m)).length (flat outCells (toks src (IntKind.u64.wrap m))) ∧
      w'.ownsRow w.heap.size 61 3 ve (last src (IntKind.u64.wrap m)).notes.length (flat outNote (last src (IntKind.u64.wrap m)).notes) ∧ Below w.heap.size w w' := by
  refine calls_of_wp Tryd.func15 sc_body ?_
  have hnt : (Tryd.f15).ntmps - (#[.string src, .int .i64 m] : Array Value).size = 72 := by kernel_rfl
  rw [hnt]
  refine sc_first hG hn m _ _ _ (fun g cap ve a w1 o1 o2 b1 z1 => ?_)
  have hl1 := toks_len src (IntKind.u64.wrap m) hn
  have hl2 := last_cn (IntKind.u64.wrap m) hn
  refine wp_block (wp_loop_rounds ((toks src (IntKind.u64.wrap m)).length + 1) ?_)
  refine sc_loop (toks src (IntKind.u64.wrap m)) (by omega) o1 _ (fun vo a2 w2 z2 own2 b2 => ?_) _ 0 _ a w1 (Nat.zero_add _) z1 (World.ownsRow_nil _ _ _ _) (Below.refl _ _)
  show (cutTail 4 scBody).wp _ _ a2 w2
  have o2' := own_below b2 o2
  rw [sc_body2]
  refine sc_second o2' a2 z2 _ _ _ (fun a3 z3 => ?_)
  refine wp_block (wp_loop_rounds ((last src (IntKind.u64.wrap m)).notes.length + 1) ?_)
  refine sn_loop (last src (IntKind.u64.wrap m)).notes (by omega) o2' _ (fun vn a4 w4 z4 own4 b4 => ?_) _ 0 _ a3 w2 (Nat.zero_add _) z3 (World.ownsRow_nil _ _ _ _) (Below.refl _ _)
  show (cutTail 6 scBody).wp _ _ a4 w4
  have hs1 := b1.size; have hs2 := b2.size
  refine sc_third a4 z4 _ (fun a5 d0 d4 d5 => ⟨d0, _, sc_res d4 d5, vo, vn, rfl, ?_, ?_, ?_⟩)
  · exact own_weak (own_below b4 own2) hs1
  · exact own_weak own4 (by omega)
  · exact b1.trans ((below_weak b2 hs1).trans (below_weak b4 (by omega)))
end Sc
end Go.Proofs.YtogkcphobhhbdaaDoor

/- spec.Told walked. -/
namespace Go.Proofs.YtogkcphobhhbdaaDoor
open Go Go.RowKit Go.Lib
namespace Sc
open Ev
set_option maxRecDepth 100000
def sEq : ByteArray := ⟨#[61]⟩
def sSemiW : ByteArray := ⟨#[59]⟩
/-- What a token of the program is: its class, its text. -/
def toldF (nm lt op : ByteArray) : Int × ByteArray :=
  if nm.toList = [69, 79, 70] then (0, ⟨#[]⟩)
  else if nm.toList = [110, 97, 109, 101] then (1, lt)
  else if nm.toList = [108, 105, 116, 101, 114, 97, 108] then (2, lt)
  else if nm.toList = [111, 112] then (3, op)
  else if nm.toList = [111, 112, 61] then (3, op ++ sEq)
  else if nm.toList = [111, 112, 111, 112] then (3, op ++ op)
  else if nm.toList = [59] then (if lt.toList = [115, 101, 109, 105, 99, 111, 108, 111, 110] then (4, sSemiW) else (4, ⟨#[]⟩))
  else (3, nm)
theorem told_res {a : Act} {w : World} {v ve : Value} (h4 : a.tmps[2]? = some v) (h5 : a.tmps[3]? = some ve) : (results Tryd.f16 a.tmps).run Tryd.prog w = .ok (.tuple #[v, ve]) w := by
  have e : (Tryd.f16).results = #[.tmp 2, .tmp 3] := by kernel_rfl
  simp [results, e, h4, h5, go_sem]
set_option maxHeartbeats 3200000 in
theorem told_walk (w : World) (li co kd pr : Int) (bk bd : Bool) (nm lt op : ByteArray) (hop : op.size ≤ 1000) :
    Calls Tryd.prog 16 #[.agg #[.int .i64 li, .int .i64 co, .bool bk, .string nm, .string lt, .bool bd, .int .i64 kd, .string op, .int .i64 pr]] w fun e w' =>
      e = .returned (.tuple #[.int .i64 (toldF nm lt op).1, .string (toldF nm lt op).2]) ∧ Below w.heap.size w w' := by
  have ha1 : op.size + 1 ≤ 9223372036854775807 := by omega
  have ha2 : op.size + op.size ≤ 9223372036854775807 := by omega
  have ha3 : (op.size : Int) ≤ 8388608 := by omega
  go_enter Tryd.func16, Tryd.ntmps16
  go_wp2_with fail
  all_goals try (go_quiet (fail))
  all_goals (go_wp2_with fail)
  all_goals first | refine ⟨rfl, _, told_res rfl rfl, ?_, ?_⟩ | trace_state
  all_goals first
    | exact Below.alloc (Below.refl _ _) (Nat.le_refl _) _
    | exact Below.drew (Below.alloc (Below.refl _ _) (Nat.le_refl _) _)
    | exact (Below.alloc (Below.refl _ _) (Nat.le_refl _) _).trans ⟨rfl, rfl, rfl, Nat.le_refl _, fun _ _ => rfl⟩
    | skip
  all_goals (unfold toldF; simp_all [sEq, sSemiW])
end Sc
end Go.Proofs.YtogkcphobhhbdaaDoor

/- FnEnds: a round of its loop. -/
namespace Go.Proofs.YtogkcphobhhbdaaDoor
open Go Go.RowKit Go.Lib
namespace Sc
open Ev
set_option maxRecDepth 100000
/-- Known slots of a frame of 84. -/
structure SE (v5 vr vn vi : Value) (a : Act) : Prop where
  defers : a.defers = []
  size : a.tmps.size = 84
  s5 : a.tmps[5]? = some v5
  s25 : a.tmps[25]? = some vr
  s26 : a.tmps[26]? = some vn
  s27 : a.tmps[27]? = some vi
theorem SE.lit {v5 vr vn vi : Value} {a : Act} (h : SE v5 vr vn vi a) : ∃ x : Nat → Value, a = { tmps := #[x 0, x 1, x 2, x 3, x 4, v5, x 6, x 7, x 8, x 9, x 10, x 11, x 12, x 13, x 14, x 15, x 16, x 17, x 18, x 19, x 20, x 21, x 22, x 23, x 24, vr, vn, vi, x 28, x 29, x 30, x 31, x 32, x 33, x 34, x 35, x 36, x 37, x 38, x 39, x 40, x 41, x 42, x 43, x 44, x 45, x 46, x 47, x 48, x 49, x 50, x 51, x 52, x 53, x 54, x 55, x 56, x 57, x 58, x 59, x 60, x 61, x 62, x 63, x 64, x 65, x 66, x 67, x 68, x 69, x 70, x 71, x 72, x 73, x 74, x 75, x 76, x 77, x 78, x 79, x 80, x 81, x 82, x 83], defers := [] } := by
  refine ⟨fun i => a.tmps.getD i undef, ?_⟩
  obtain ⟨t, d⟩ := a
  obtain ⟨h1, h2, k5, k25, k26, k27⟩ := h
  simp only at h1 h2 k5 k25 k26 k27
  subst h1
  have e5 : t.getD 5 undef = v5 := by rw [Array.getD_eq_getD_getElem?, k5]; rfl
  have e25 : t.getD 25 undef = vr := by rw [Array.getD_eq_getD_getElem?, k25]; rfl
  have e26 : t.getD 26 undef = vn := by rw [Array.getD_eq_getD_getElem?, k26]; rfl
  have e27 : t.getD 27 undef = vi := by rw [Array.getD_eq_getD_getElem?, k27]; rfl
  have ht := tmpsN 84 t h2
  rw [← e5, ← e25, ← e26, ← e27]
  exact congrArg (fun t => ({ tmps := t, defers := [] } : Act)) ht
theorem SE.of {v5 vr vn vi : Value} (x : Nat → Value) : SE v5 vr vn vi { tmps := #[x 0, x 1, x 2, x 3, x 4, v5, x 6, x 7, x 8, x 9, x 10, x 11, x 12, x 13, x 14, x 15, x 16, x 17, x 18, x 19, x 20, x 21, x 22, x 23, x 24, vr, vn, vi, x 28, x 29, x 30, x 31, x 32, x 33, x 34, x 35, x 36, x 37, x 38, x 39, x 40, x 41, x 42, x 43, x 44, x 45, x 46, x 47, x 48, x 49, x 50, x 51, x 52, x 53, x 54, x 55, x 56, x 57, x 58, x 59, x 60, x 61, x 62, x 63, x 64, x 65, x 66, x 67, x 68, x 69, x 70, x 71, x 72, x 73, x 74, x 75, x 76, x 77, x 78, x 79, x 80, x 81, x 82, x 83], defers := [] } := ⟨rfl, rfl, rfl, rfl, rfl, rfl⟩
/-- The cells of a token of the row. -/
structure Row9 (w : World) (g i : Nat) (li co kd pr : Int) (bk bd : Bool) (nm lt op : ByteArray) : Prop where
  c0 : w.cell? ⟨g, i * 9, none⟩ = some (.int .i64 li)
  c1 : w.cell? ⟨g, i * 9 + 1, none⟩ = some (.int .i64 co)
  c2 : w.cell? ⟨g, i * 9 + 2, none⟩ = some (.bool bk)
  c3 : w.cell? ⟨g, i * 9 + 3, none⟩ = some (.string nm)
  c4 : w.cell? ⟨g, i * 9 + 4, none⟩ = some (.string lt)
  c5 : w.cell? ⟨g, i * 9 + 5, none⟩ = some (.bool bd)
  c6 : w.cell? ⟨g, i * 9 + 6, none⟩ = some (.int .i64 kd)
  c7 : w.cell? ⟨g, i * 9 + 7, none⟩ = some (.string op)
  c8 : w.cell? ⟨g, i * 9 + 8, none⟩ = some (.int .i64 pr)
theorem below_drewN (B : Nat) (w : World) (n : Nat) : Below B w (w.drewN n) := ⟨rfl, rfl, rfl, Nat.le_refl _, fun _ _ => rfl⟩
theorem below_cell {w w' : World} {cs : Array Value} {ty : TypeId} (h : Below (w.alloc (.cells cs ty)).heap.size (w.alloc (.cells cs ty)) w') {k : Nat} {v : Value} (hk : cs[k]? = some v) : w'.cell? ⟨w.heap.size, k, none⟩ = some v := by
  have hb : w'.heap[w.heap.size]? = some (.cells cs ty) := by rw [h.block _ (by simp)]; exact heap_alloc_new w _
  rw [cell_of_block' hb]; exact hk
theorem below_old {w w' : World} {o : Obj} (h : Below (w.alloc o).heap.size (w.alloc o) w') : Below w.heap.size w w' :=
  (Below.alloc (Below.refl _ _) (Nat.le_refl _) o).trans (below_weak h (by simp))
end Sc
end Go.Proofs.YtogkcphobhhbdaaDoor

/- FnEnds walked: true at every text. -/
namespace Go.Proofs.YtogkcphobhhbdaaDoor
open Go Go.RowKit Go.Lib
namespace Sc
open Ev
set_option maxRecDepth 100000
theorem word_one : (tokWord 1).toList = [69, 79, 70] := by kernel_rfl
theorem op_small : ((List.range 24).all fun k => decide ((opStr (k : Nat)).size ≤ 1000)) = true := by kernel_rfl
theorem op_size {s : St} (h : Rk s) : (opStr s.op).size ≤ 1000 := by
  obtain ⟨_, h1, h2⟩ := h
  have := List.all_eq_true.1 op_small s.op.toNat (List.mem_range.2 (by omega))
  rw [show ((s.op.toNat : Nat) : Int) = s.op by omega] at this
  exact of_decide_eq_true this
theorem row9 {wS w : World} {g cap b0 i : Nat} {L : List St} {s : St} (hrow : wS.ownsRow b0 27 9 (.slice (some ⟨g, 0, none⟩) L.length cap) L.length (flat outCells L)) (hB : Below wS.heap.size wS w) (hs : L[i]? = some s) :
    Row9 w g i (wrap64 s.line) (wrap64 s.col) (wrap64 s.kind) s.prec s.blank s.bad (tokWord s.tok.toNat) s.lit (opStr s.op) := by
  have cell : ∀ j u, j < 9 → (outCells s)[j]? = some u → w.cell? ⟨g, i * 9 + j, none⟩ = some u := fun j u hj hu => by
    have h1 : (flat outCells L)[i * 9 + j]? = some u := (flat_get (k := 9) (fun _ => rfl) L i j s hs hj).trans hu
    have h2 := own_row_cell hrow h1
    rw [World.cell?_of_block (w := wS) (a := ⟨g, i * 9 + j, none⟩) (hB.block _ (World.block_lt_of_cell? _ _ h2))]
    exact h2
  exact ⟨by have := cell 0 _ (by decide) rfl; exact this, cell 1 _ (by decide) rfl, cell 2 _ (by decide) rfl, cell 3 _ (by decide) rfl, cell 4 _ (by decide) rfl, cell 5 _ (by decide) rfl, cell 6 _ (by decide) rfl, cell 7 _ (by decide) rfl, cell 8 _ (by decide) rfl⟩
end Sc
end Go.Proofs.YtogkcphobhhbdaaDoor

/- FnModes: a round of its loop. -/
namespace Go.Proofs.YtogkcphobhhbdaaDoor
open Go Go.RowKit Go.Lib
namespace Sc
open Ev
set_option maxRecDepth 100000
/-- Known slots of a frame of 54. -/
structure SM (va vb vn vi : Value) (a : Act) : Prop where
  defers : a.defers = []
  size : a.tmps.size = 54
  s5 : a.tmps[5]? = some va
  s7 : a.tmps[7]? = some vb
  s40 : a.tmps[40]? = some vn
  s41 : a.tmps[41]? = some vi
theorem SM.lit {va vb vn vi : Value} {a : Act} (h : SM va vb vn vi a) : ∃ x : Nat → Value, a = { tmps := #[x 0, x 1, x 2, x 3, x 4, va, x 6, vb, x 8, x 9, x 10, x 11, x 12, x 13, x 14, x 15, x 16, x 17, x 18, x 19, x 20, x 21, x 22, x 23, x 24, x 25, x 26, x 27, x 28, x 29, x 30, x 31, x 32, x 33, x 34, x 35, x 36, x 37, x 38, x 39, vn, vi, x 42, x 43, x 44, x 45, x 46, x 47, x 48, x 49, x 50, x 51, x 52, x 53], defers := [] } := by
  refine ⟨fun i => a.tmps.getD i undef, ?_⟩
  obtain ⟨t, d⟩ := a
  obtain ⟨h1, h2, k5, k7, k40, k41⟩ := h
  simp only at h1 h2 k5 k7 k40 k41
  subst h1
  have e5 : t.getD 5 undef = va := by rw [Array.getD_eq_getD_getElem?, k5]; rfl
  have e7 : t.getD 7 undef = vb := by rw [Array.getD_eq_getD_getElem?, k7]; rfl
  have e40 : t.getD 40 undef = vn := by rw [Array.getD_eq_getD_getElem?, k40]; rfl
  have e41 : t.getD 41 undef = vi := by rw [Array.getD_eq_getD_getElem?, k41]; rfl
  have ht := tmpsN 54 t h2
  rw [← e5, ← e7, ← e40, ← e41]
  exact congrArg (fun t => ({ tmps := t, defers := [] } : Act)) ht
theorem SM.of {va vb vn vi : Value} (x : Nat → Value) : SM va vb vn vi { tmps := #[x 0, x 1, x 2, x 3, x 4, va, x 6, vb, x 8, x 9, x 10, x 11, x 12, x 13, x 14, x 15, x 16, x 17, x 18, x 19, x 20, x 21, x 22, x 23, x 24, x 25, x 26, x 27, x 28, x 29, x 30, x 31, x 32, x 33, x 34, x 35, x 36, x 37, x 38, x 39, vn, vi, x 42, x 43, x 44, x 45, x 46, x 47, x 48, x 49, x 50, x 51, x 52, x 53], defers := [] } := ⟨rfl, rfl, rfl, rfl, rfl, rfl⟩
end Sc
end Go.Proofs.YtogkcphobhhbdaaDoor

/- FnModes walked: true at every text. -/
namespace Go.Proofs.YtogkcphobhhbdaaDoor
open Go Go.RowKit Go.Lib
namespace Sc
open Ev
set_option maxRecDepth 100000
theorem glob_move {w w' : World} {ea : Addr} (h : Glob w ea) (hB : Below w.heap.size w w') : Glob w' ea := by
  have mv : ∀ {a : Addr} {v : Value}, w.cell? a = some v → w'.cell? a = some v := fun {a v} hc => by
    rw [World.cell?_of_block (w := w) (a := a) (hB.block _ (World.block_lt_of_cell? _ _ hc))]; exact hc
  have := hB.size; have := h.size
  exact ⟨mv h.eof, ⟨fun c hc => mv (h.utf8.1 c hc), fun i hi => ⟨mv (h.utf8.2 i hi).1, mv (h.utf8.2 i hi).2⟩⟩, Go.Proofs.TabIs_below (by kernel_rfl : Tryd.prog.globalNamed "unicode.properties" = some 4) h.props hB, Go.Proofs.RVar_below h.letter hB, Go.Proofs.RVar_below h.digit hB, fun i hi => mv (h.tix i hi), fun i hi => mv (h.oix i hi), by omega⟩
end Sc
end Go.Proofs.YtogkcphobhhbdaaDoor

/- spec.Alike walked: true of tokens that are those wanted. -/
namespace Go.Proofs.YtogkcphobhhbdaaDoor
open Go Go.RowKit Go.Lib
namespace Sc
open Ev
set_option maxRecDepth 100000
/-- A token that is wanted. -/
structure WTok where
  cls : Int
  text : ByteArray
  kind : Int
  line : Int
  col : Int
def wCells (t : WTok) : List Value := [.int .i64 t.cls, .string t.text, .int .i64 t.kind, .int .i64 t.line, .int .i64 t.col]
/-- A token of the program is the one that is wanted. -/
def Like (s : St) (t : WTok) : Prop := toldF (tokWord s.tok.toNat) s.lit (opStr s.op) = (t.cls, t.text) ∧ (t.cls = 2 → wrap64 s.kind = t.kind ∧ s.bad = false)
structure Row5 (w : World) (g i : Nat) (t : WTok) : Prop where
  c0 : w.cell? ⟨g, i * 5, none⟩ = some (.int .i64 t.cls)
  c1 : w.cell? ⟨g, i * 5 + 1, none⟩ = some (.string t.text)
  c2 : w.cell? ⟨g, i * 5 + 2, none⟩ = some (.int .i64 t.kind)
  c3 : w.cell? ⟨g, i * 5 + 3, none⟩ = some (.int .i64 t.line)
  c4 : w.cell? ⟨g, i * 5 + 4, none⟩ = some (.int .i64 t.col)
theorem row5 {wS w : World} {g cap b0 i : Nat} {W : List WTok} {t : WTok} (hrow : wS.ownsRow b0 37 5 (.slice (some ⟨g, 0, none⟩) W.length cap) W.length (flat wCells W)) (hB : Below wS.heap.size wS w) (hs : W[i]? = some t) :
    Row5 w g i t := by
  have cell : ∀ j u, j < 5 → (wCells t)[j]? = some u → w.cell? ⟨g, i * 5 + j, none⟩ = some u := fun j u hj hu => by
    have h1 : (flat wCells W)[i * 5 + j]? = some u := (flat_get (k := 5) (fun _ => rfl) W i j t hs hj).trans hu
    have h2 := own_row_cell hrow h1
    rw [World.cell?_of_block (w := wS) (a := ⟨g, i * 5 + j, none⟩) (hB.block _ (World.block_lt_of_cell? _ _ h2))]
    exact h2
  exact ⟨by have := cell 0 _ (by decide) rfl; exact this, cell 1 _ (by decide) rfl, cell 2 _ (by decide) rfl, cell 3 _ (by decide) rfl, cell 4 _ (by decide) rfl⟩
/-- Known slots of a frame of 61. -/
structure SK (v0 v1 vr vn vi : Value) (a : Act) : Prop where
  defers : a.defers = []
  size : a.tmps.size = 61
  s0 : a.tmps[0]? = some v0
  s1 : a.tmps[1]? = some v1
  s14 : a.tmps[14]? = some vr
  s15 : a.tmps[15]? = some vn
  s16 : a.tmps[16]? = some vi
theorem SK.lit {v0 v1 vr vn vi : Value} {a : Act} (h : SK v0 v1 vr vn vi a) : ∃ x : Nat → Value, a = { tmps := #[v0, v1, x 2, x 3, x 4, x 5, x 6, x 7, x 8, x 9, x 10, x 11, x 12, x 13, vr, vn, vi, x 17, x 18, x 19, x 20, x 21, x 22, x 23, x 24, x 25, x 26, x 27, x 28, x 29, x 30, x 31, x 32, x 33, x 34, x 35, x 36, x 37, x 38, x 39, x 40, x 41, x 42, x 43, x 44, x 45, x 46, x 47, x 48, x 49, x 50, x 51, x 52, x 53, x 54, x 55, x 56, x 57, x 58, x 59, x 60], defers := [] } := by
  refine ⟨fun i => a.tmps.getD i undef, ?_⟩
  obtain ⟨t, d⟩ := a
  obtain ⟨h1, h2, k0, k1, k14, k15, k16⟩ := h
  simp only at h1 h2 k0 k1 k14 k15 k16
  subst h1
  have e0 : t.getD 0 undef = v0 := by rw [Array.getD_eq_getD_getElem?, k0]; rfl
  have e1 : t.getD 1 undef = v1 := by rw [Array.getD_eq_getD_getElem?, k1]; rfl
  have e14 : t.getD 14 undef = vr := by rw [Array.getD_eq_getD_getElem?, k14]; rfl
  have e15 : t.getD 15 undef = vn := by rw [Array.getD_eq_getD_getElem?, k15]; rfl
  have e16 : t.getD 16 undef = vi := by rw [Array.getD_eq_getD_getElem?, k16]; rfl
  have ht := tmpsN 61 t h2
  rw [← e0, ← e1, ← e14, ← e15, ← e16]
  exact congrArg (fun t => ({ tmps := t, defers := [] } : Act)) ht
theorem SK.of {v0 v1 vr vn vi : Value} (x : Nat → Value) : SK v0 v1 vr vn vi { tmps := #[v0, v1, x 2, x 3, x 4, x 5, x 6, x 7, x 8, x 9, x 10, x 11, x 12, x 13, vr, vn, vi, x 17, x 18, x 19, x 20, x 21, x 22, x 23, x 24, x 25, x 26, x 27, x 28, x 29, x 30, x 31, x 32, x 33, x 34, x 35, x 36, x 37, x 38, x 39, x 40, x 41, x 42, x 43, x 44, x 45, x 46, x 47, x 48, x 49, x 50, x 51, x 52, x 53, x 54, x 55, x 56, x 57, x 58, x 59, x 60], defers := [] } := ⟨rfl, rfl, rfl, rfl, rfl, rfl, rfl⟩
noncomputable abbrev alBody : Code := bodyOf Tryd.f34
noncomputable abbrev alLoop : Code := loopOf (blkOf alBody 0)
set_option maxHeartbeats 3200000 in
theorem al_round {w : World} {g cap gw capw n i : Nat} {li co kd pr : Int} {bk bd : Bool} {nm lt op : ByteArray} {t : WTok} {v0 : Value} (hn : n ≤ 1000000) (hi : i < n) (hr : Row9 w g i li co kd pr bk bd nm lt op) (hw : Row5 w gw i t) (hop : op.size ≤ 1000)
    (ht : toldF nm lt op = (t.cls, t.text)) (hk : t.cls = 2 → kd = t.kind ∧ bd = false)
    (a : Act) (hz : SK v0 (.slice (some ⟨gw, 0, none⟩) n capw) (.slice (some ⟨g, 0, none⟩) n cap) (.int .i64 n) (.int .i64 i) a) (Q : Exit → Act → World → Prop)
    (hQ : ∀ a' w', SK v0 (.slice (some ⟨gw, 0, none⟩) n capw) (.slice (some ⟨g, 0, none⟩) n cap) (.int .i64 n) (.int .i64 (i + 1 : Nat)) a' → Below w.heap.size w w' → Q .normal a' w') : alLoop.wp Tryd.prog Q a w := by
  obtain ⟨x, rfl⟩ := hz.lit
  obtain ⟨c0, c1, c2, c3, c4, c5, c6, c7, c8⟩ := hr
  obtain ⟨k0, k1, k2, k3, k4⟩ := hw
  clear hz
  have hg := World.block_lt_of_cell? w _ c0
  have hgw := World.block_lt_of_cell? w _ k0
  have hi0 : (0 : Int) ≤ (i : Int) := by omega
  have hi1 : (i : Int) < (n : Int) := by omega
  obtain ⟨cls, text, kind, wl, wc⟩ := t
  simp only at ht hk k0 k1 k2 k3 k4
  have hT : ∀ w, Calls Tryd.prog 16 #[.agg #[.int .i64 li, .int .i64 co, .bool bk, .string nm, .string lt, .bool bd, .int .i64 kd, .string op, .int .i64 pr]] w fun e w' =>
      e = .returned (.tuple #[.int .i64 cls, .string text]) ∧ Below w.heap.size w w' := fun w => by
    have := told_walk w li co kd pr bk bd nm lt op hop
    rw [ht] at this
    exact this
  simp only [alLoop, alBody, bodyOf, Tryd.f34, Option.getD, blkOf, loopOf, cond, Nat.beq]
  go_wp2_with (go_at_call 16; refine (hT _).mono ?_; rintro en w' ⟨rfl, hB⟩)
  have d5 := below_cell hB (k := 5) (v := .bool bd) rfl
  have d6 := below_cell hB (k := 6) (v := .int .i64 kd) rfl
  have hB1 := below_old hB
  have mv : ∀ {j : Nat} {u : Value}, w.cell? ⟨gw, j, none⟩ = some u → w'.cell? ⟨gw, j, none⟩ = some u := fun {j u} hc => by
    rw [World.cell?_of_block (w := w) (a := ⟨gw, j, none⟩) (hB1.block _ hgw)]; exact hc
  have q0 := mv k0
  have q1 := mv k1
  have q2 := mv k2
  clear hB hT c0 c1 c2 c3 c4 c5 c6 c7 c8 k0 k1 k2 k3 k4 mv ht
  rename_i KA hKA KB hKB
  by_cases h2 : cls = 2
  · obtain ⟨rfl, rfl⟩ := hk h2
    subst h2
    go_quiet (fail)
    simp only [Exit.then]
    refine hKB _ _ ?_
    clear hKB
    go_wp2_with fail
    exact hQ _ _ ⟨rfl, rfl, rfl, rfl, rfl, rfl, rfl⟩ (hB1.trans (below_drewN _ _ _))
  · have h2' : (cls == 2) = false := by simpa using h2
    go_quiet (fail)
    simp only [Exit.then]
    refine hKB _ _ ?_
    clear hKB
    go_wp2_with fail
    exact hQ _ _ ⟨rfl, rfl, rfl, rfl, rfl, rfl, rfl⟩ (hB1.trans (below_drewN _ _ _))
end Sc
end Go.Proofs.YtogkcphobhhbdaaDoor

/- spec.Alike walked whole. -/
namespace Go.Proofs.YtogkcphobhhbdaaDoor
open Go Go.RowKit Go.Lib
namespace Sc
open Ev
set_option maxRecDepth 100000
noncomputable abbrev aP (n : Nat) : Code := fstC (cutTail n alBody)
theorem al_body : (Tryd.f34).body = some (.seq (aP 0) (.seq (aP 1) (.seq (.seq (fstC (aP 2)) (.block 0 (.loop alLoop))) (cutTail 3 alBody)))) := by kernel_rfl
theorem al_res {a : Act} {w : World} {v : Value} (h4 : a.tmps[4]? = some v) : (results Tryd.f34 a.tmps).run Tryd.prog w = .ok v w := by
  have e : (Tryd.f34).results = #[.tmp 4] := by kernel_rfl
  simp [results, e, h4, go_sem]
theorem al_out {w : World} {n : Nat} {v0 v1 vr : Value} (a : Act) (hz : SK v0 v1 vr (.int .i64 n) (.int .i64 n) a) (Q : Exit → Act → World → Prop)
    (hQ : ∀ a', SK v0 v1 vr (.int .i64 n) (.int .i64 n) a' → Q (.exit 0) a' w) : alLoop.wp Tryd.prog Q a w := by
  obtain ⟨x, rfl⟩ := hz.lit
  clear hz
  simp only [alLoop, alBody, bodyOf, Tryd.f34, Option.getD, blkOf, loopOf, cond, Nat.beq]
  have hlt : ¬ ((n : Int) < (n : Int)) := by omega
  go_wp2_with fail
  exact ⟨rfl, rfl, rfl, rfl, rfl, rfl, rfl⟩
/-- The tokens of the program are those that are wanted, one by one. -/
def LikeAll (L : List St) (W : List WTok) : Prop := L.length = W.length ∧ ∀ (i : Nat) (s : St) (t : WTok), L[i]? = some s → W[i]? = some t → Like s t
theorem al_loop (L : List St) (W : List WTok) {wS : World} {g cap gw capw b0 b1 : Nat} {v0 : Value} (hk : ∀ s ∈ L, Rk s) (hA : LikeAll L W) (hL : L.length ≤ 1000000) (hrow : wS.ownsRow b0 27 9 (.slice (some ⟨g, 0, none⟩) L.length cap) L.length (flat outCells L))
    (hrow2 : wS.ownsRow b1 37 5 (.slice (some ⟨gw, 0, none⟩) W.length capw) W.length (flat wCells W)) (Q : Exit → Act → World → Prop)
    (hQ : ∀ a w, SK v0 (.slice (some ⟨gw, 0, none⟩) L.length capw) (.slice (some ⟨g, 0, none⟩) L.length cap) (.int .i64 L.length) (.int .i64 L.length) a → Below wS.heap.size wS w → Q .normal a w) :
    ∀ (d i : Nat) (a : Act) (w : World), i + d = L.length → SK v0 (.slice (some ⟨gw, 0, none⟩) L.length capw) (.slice (some ⟨g, 0, none⟩) L.length cap) (.int .i64 L.length) (.int .i64 i) a → Below wS.heap.size wS w →
      Code.rounds Tryd.prog alLoop (Exit.inBlock 0 Q) (d + 1) a w
  | 0, i, a, w, hi, hz, hB => by
    have hi : i = L.length := by omega
    subst hi
    rw [rounds_succ]
    exact al_out a hz _ (fun a' z' => hQ a' w z' hB)
  | d + 1, i, a, w, hi, hz, hB => by
    have hlt : i < L.length := by omega
    obtain ⟨s, hs⟩ : ∃ s, L[i]? = some s := ⟨L[i], List.getElem?_eq_getElem hlt⟩
    obtain ⟨t, ht⟩ : ∃ t, W[i]? = some t := ⟨W[i]'(by rw [← hA.1]; exact hlt), List.getElem?_eq_getElem _⟩
    obtain ⟨h1, h2⟩ := hA.2 i s t hs ht
    rw [rounds_succ]
    refine al_round hL hlt (row9 hrow hB hs) (row5 hrow2 hB ht) (op_size (hk s (List.mem_of_getElem? hs))) h1 h2 a hz _ (fun a' w' z' b' => ?_)
    show Code.rounds Tryd.prog alLoop (Exit.inBlock 0 Q) (d + 1) a' w'
    exact al_loop L W hk hA hL hrow hrow2 Q hQ d (i + 1) a' w' (by omega) z' (hB.trans (below_weak b' hB.size))
set_option maxHeartbeats 1600000 in
theorem al_first {w : World} {g cap gw capw n : Nat} (B C : Code) (Q : Exit → Act → World → Prop)
    (hQ : ∀ a, SK (.slice (some ⟨g, 0, none⟩) n cap) (.slice (some ⟨gw, 0, none⟩) n capw) (.slice (some ⟨g, 0, none⟩) n cap) (.int .i64 n) (.int .i64 (0 : Nat)) a → B.wp Tryd.prog (Exit.then (fun a w => C.wp Tryd.prog Q a w) Q) a w) :
    (Code.seq (aP 0) (.seq (aP 1) (.seq (.seq (fstC (aP 2)) B) C))).wp Tryd.prog Q { tmps := #[.slice (some ⟨g, 0, none⟩) n cap, .slice (some ⟨gw, 0, none⟩) n capw] ++ Array.replicate 59 undef, defers := [] } w := by
  simp only [aP, fstC, alBody, bodyOf, Tryd.f34, Option.getD, cutTail, cutN, Option.map, Array.replicate_succ, Array.replicate_zero, List.push_toArray, List.append_toArray, List.nil_append, List.cons_append]
  go_wp2_with fail
  rename_i K hK
  refine Code.wp_mono (fun e a w h => ?_) (hQ _ ⟨rfl, rfl, rfl, rfl, rfl, rfl, rfl⟩)
  cases e <;> first | exact hK _ _ h | exact h
theorem al_last {w : World} {v0 v1 vr vn vi : Value} (a : Act) (hz : SK v0 v1 vr vn vi a) (Q : Exit → Act → World → Prop)
    (hQ : ∀ a', a'.defers = [] → a'.tmps[4]? = some (.bool true) → Q .ret a' w) : (cutTail 3 alBody).wp Tryd.prog Q a w := by
  obtain ⟨x, rfl⟩ := hz.lit
  clear hz
  simp only [alBody, bodyOf, Tryd.f34, Option.getD, cutTail, cutN, Option.map]
  go_wp2_with fail
  all_goals first | exact hQ _ rfl rfl | exact rfl
/-- spec.Alike, of tokens that are those wanted: true. -/
theorem alike_walk (L : List St) (W : List WTok) {w : World} {g cap gw capw b0 b1 : Nat} (hk : ∀ s ∈ L, Rk s) (hA : LikeAll L W) (hL : L.length ≤ 1000000) (hrow : w.ownsRow b0 27 9 (.slice (some ⟨g, 0, none⟩) L.length cap) L.length (flat outCells L))
    (hrow2 : w.ownsRow b1 37 5 (.slice (some ⟨gw, 0, none⟩) W.length capw) W.length (flat wCells W)) :
    Calls Tryd.prog 34 #[.slice (some ⟨g, 0, none⟩) L.length cap, .slice (some ⟨gw, 0, none⟩) W.length capw] w fun en w' => en = .returned (.bool true) ∧ Below w.heap.size w w' := by
  have el : W.length = L.length := hA.1.symm
  refine calls_of_wp Tryd.func34 al_body ?_
  have hnt : (Tryd.f34).ntmps - (#[.slice (some ⟨g, 0, none⟩) L.length cap, .slice (some ⟨gw, 0, none⟩) W.length capw] : Array Value).size = 59 := by kernel_rfl
  rw [hnt, show (Value.slice (some ⟨gw, 0, none⟩) W.length capw) = Value.slice (some ⟨gw, 0, none⟩) L.length capw by rw [el]]
  refine al_first _ _ _ (fun a z => ?_)
  refine wp_block (wp_loop_rounds (L.length + 1) ?_)
  refine al_loop L W hk hA hL hrow hrow2 _ (fun a2 w2 z2 b2 => ?_) _ 0 a w (Nat.zero_add _) z (Below.refl _ _)
  show (cutTail 3 alBody).wp _ _ a2 w2
  exact al_last a2 z2 _ (fun a3 d0 d4 => ⟨d0, _, al_res d4, rfl, b2⟩)
end Sc
end Go.Proofs.YtogkcphobhhbdaaDoor

/- laws.refused and laws.told walked. -/
namespace Go.Proofs.YtogkcphobhhbdaaDoor
open Go Go.RowKit Go.Lib
namespace Sc
open Ev
set_option maxRecDepth 100000
theorem own_slice {w : World} {base n size : Nat} {e : TypeId} {v : Value} {xs : List Value} (h : w.ownsRow base e size v n xs) : ∃ p cap, v = .slice p n cap := by
  rcases h.2 with ⟨h1, h2⟩ | ⟨g, cap, _, h1, _⟩
  · exact ⟨none, 0, by rw [h1, h2]⟩
  · exact ⟨_, cap, h1⟩
/-- impl.Scan without modes, whole. -/
theorem scan_full {w : World} {ea : Addr} {src : ByteArray} (hG : Glob w ea) (hn : src.size ≤ 2048) :
    Calls Tryd.prog 15 #[.string src, .int .i64 0] w fun en w' => ∃ g cap p c2, en = .returned (.tuple #[.slice (some ⟨g, 0, none⟩) (toks src 0).length cap, .slice p (last src 0).notes.length c2]) ∧
      w'.ownsRow w.heap.size 27 9 (.slice (some ⟨g, 0, none⟩) (toks src 0).length cap) (toks src 0).length (flat outCells (toks src 0)) ∧ Below w.heap.size w w' := by
  have := scan_walk hG hn 0
  rw [show IntKind.u64.wrap 0 = 0 from by decide] at this
  refine this.mono ?_
  rintro en w' ⟨v, ve, rfl, h1, h2, h3⟩
  obtain ⟨g, cap, rfl, _, _⟩ := h1.form (List.length_pos_iff.2 (toks_good _ hn).ne)
  obtain ⟨p, c2, rfl⟩ := own_slice h2
  exact ⟨g, cap, p, c2, rfl, h1, h3⟩
theorem one_res {f : Func} {a : Act} {w : World} {v : Value} {k : Nat} (e : f.results = #[.tmp k]) (h4 : a.tmps[k]? = some v) : (results f a.tmps).run Tryd.prog w = .ok v w := by
  simp [results, e, h4, go_sem]
set_option maxHeartbeats 1600000 in
/-- laws.told, of a text whose tokens are those wanted, and of which nothing is told: true. -/
theorem toldL_walk {w : World} {ea : Addr} {src : ByteArray} {W : List WTok} {gw capw b1 : Nat} (hG : Glob w ea) (hn : src.size ≤ 2048) (hA : LikeAll (toks src 0) W) (h0 : (last src 0).notes = [])
    (hrow2 : w.ownsRow b1 37 5 (.slice (some ⟨gw, 0, none⟩) W.length capw) W.length (flat wCells W)) :
    Calls Tryd.prog 21 #[.string src, .slice (some ⟨gw, 0, none⟩) W.length capw] w fun en w' => en = .returned (.bool true) ∧ Below w.heap.size w w' := by
  have hS := scan_full hG hn
  have hk : ∀ s ∈ toks src 0, Rk s := fun s hs => by
    obtain ⟨i, hi⟩ := List.mem_iff_getElem?.1 hs
    exact ((toks_good 0 hn).at i s hi).1.rk
  have hL := toks_len src 0 hn
  rw [h0] at hS
  generalize (toks src 0) = L at hS hA hk hL
  have hL' : L.length ≤ 1000000 := by omega
  have hW : ∀ w', Below w.heap.size w w' → w'.ownsRow b1 37 5 (.slice (some ⟨gw, 0, none⟩) W.length capw) W.length (flat wCells W) := fun w' hB => own_below hB hrow2
  go_enter Tryd.func21, Tryd.ntmps21
  go_wp2_with (first
    | (go_at_call 34; refine (alike_walk L W hk hA hL' h1 (hW _ h3)).mono ?_; rintro en w2 ⟨rfl, h4⟩)
    | (go_at_call 15; refine hS.mono ?_; rintro en w' ⟨g, cap, p, c2, rfl, h1, h3⟩))
  exact ⟨rfl, _, one_res (k := 4) (by kernel_rfl) rfl, rfl, h3.trans (below_weak h4 h3.size)⟩
end Sc
end Go.Proofs.YtogkcphobhhbdaaDoor

/- spec.EndsLine and spec.Ends walked. -/
namespace Go.Proofs.YtogkcphobhhbdaaDoor
open Go Go.RowKit Go.Lib
namespace Sc
open Ev
set_option maxRecDepth 100000
/-- Behind which words a line's end puts a semicolon in. -/
def endsLineF (s : ByteArray) : Bool :=
  if s.toList = [98, 114, 101, 97, 107] then true
  else if s.toList = [99, 111, 110, 116, 105, 110, 117, 101] then true
  else if s.toList = [102, 97, 108, 108, 116, 104, 114, 111, 117, 103, 104] then true
  else if s.toList = [114, 101, 116, 117, 114, 110] then true
  else if s.toList = [43, 43] then true
  else if s.toList = [45, 45] then true
  else if s.toList = [41] then true
  else if s.toList = [93] then true
  else if s.toList = [125] then true
  else false
set_option maxHeartbeats 3200000 in
theorem endsLine_walk (w : World) (s : ByteArray) : Calls Tryd.prog 56 #[.string s] w fun e w' => e = .returned (.bool (endsLineF s)) ∧ w' = w := by
  go_enter Tryd.func56, Tryd.ntmps56
  go_wp2_with fail
  all_goals (refine ⟨rfl, _, one_res (k := 2) (by kernel_rfl) rfl, ?_, rfl⟩)
  all_goals (unfold endsLineF; simp_all)
/-- Behind which tokens a line's end puts a semicolon in. -/
def endsW (t : WTok) : Bool := if t.cls = 1 then true else if t.cls = 2 then true else if t.cls = 3 then endsLineF t.text else false
set_option maxHeartbeats 3200000 in
theorem ends_walk (w : World) (t : WTok) : Calls Tryd.prog 35 #[.agg (wCells t).toArray] w fun e w' => e = .returned (.bool (endsW t)) ∧ Below w.heap.size w w' := by
  obtain ⟨cls, text, kind, wl, wc⟩ := t
  show Calls Tryd.prog 35 #[.agg #[.int .i64 cls, .string text, .int .i64 kind, .int .i64 wl, .int .i64 wc]] w _
  unfold endsW
  simp only
  by_cases h1 : cls = 1
  · subst h1
    go_enter Tryd.func35, Tryd.ntmps35
    go_wp2_with (go_at_call 56; refine (endsLine_walk _ _).mono ?_; rintro en w' ⟨rfl, rfl⟩)
    all_goals first | exact ⟨rfl, _, one_res (k := 2) (by kernel_rfl) rfl, by simp, Below.alloc (Below.refl _ _) (Nat.le_refl _) _⟩ | trace_state
  · have e1 : (cls == 1) = false := by simpa using h1
    by_cases h2 : cls = 2
    · subst h2
      go_enter Tryd.func35, Tryd.ntmps35
      go_wp2_with (go_at_call 56; refine (endsLine_walk _ _).mono ?_; rintro en w' ⟨rfl, rfl⟩)
      all_goals first | exact ⟨rfl, _, one_res (k := 2) (by kernel_rfl) rfl, by simp, Below.alloc (Below.refl _ _) (Nat.le_refl _) _⟩ | trace_state
    · have e2 : (cls == 2) = false := by simpa using h2
      by_cases h3 : cls = 3
      · subst h3
        go_enter Tryd.func35, Tryd.ntmps35
        go_wp2_with (go_at_call 56; refine (endsLine_walk _ _).mono ?_; rintro en w' ⟨rfl, rfl⟩)
        all_goals first | exact ⟨rfl, _, one_res (k := 2) (by kernel_rfl) rfl, by simp, Below.alloc (Below.refl _ _) (Nat.le_refl _) _⟩ | trace_state
      · have e3 : (cls == 3) = false := by simpa using h3
        go_enter Tryd.func35, Tryd.ntmps35
        go_wp2_with (go_at_call 56; refine (endsLine_walk _ _).mono ?_; rintro en w' ⟨rfl, rfl⟩)
        all_goals first | exact ⟨rfl, _, one_res (k := 2) (by kernel_rfl) rfl, by simp, Below.alloc (Below.refl _ _) (Nat.le_refl _) _⟩ | trace_state
end Sc
end Go.Proofs.YtogkcphobhhbdaaDoor

/- laws.closed walked. -/
namespace Go.Proofs.YtogkcphobhhbdaaDoor
open Go Go.RowKit Go.Lib
namespace Sc
open Ev
set_option maxRecDepth 100000
theorem info_wtok : (Tryd.prog.info? 37).map (fun i => (i.zero, i.size, i.bytes)) = some (some (.agg #[.int .i64 0, .string ⟨#[]⟩, .int .i64 0, .int .i64 0, .int .i64 0]), 5, 48) := by kernel_rfl
/-- Wanted tokens are appended to a row of the call's own. -/
theorem cw_app {w0 : World} {base n m c : Nat} {v : Value} {xs news : List Value} {ad : Addr} (hown : w0.ownsRow base 37 5 v n xs) (hbase : base ≤ w0.heap.size) (hn : n ≤ 1000000) (hm : 0 < m) (hm2 : m ≤ 1000000)
    (hl : news.length = m * 5) (hnews : ∀ j u, news[j]? = some u → w0.cell? (ad.add j) = some u) (hone : ∀ u ∈ news, u.oneCell' = true)
    {ops : Array Oper} {rest : List Oper} {o : Oper} {a : Act} {Q : Exit → Act → World → Prop} (hgd : o.guard = none) (s x : Operand)
    (ho : o.op = .call { callee := .builtin .append, args := #[s, x], argTypes := #[34, 34] }) (hs : a.eval s = v) (hx : a.eval x = .slice (some ad) m c)
    (h : ∀ g cap w', w'.ownsRow base 37 5 (.slice (some ⟨g, 0, none⟩) (n + m) cap) (n + m) (xs ++ news) → w0.grownBy w' v.ownBlock → wpList Tryd.prog ops Q rest (a.put o.dst (.slice (some ⟨g, 0, none⟩) (n + m) cap)) w') :
    wpList Tryd.prog ops Q (o :: rest) a w0 := by
  obtain ⟨i0, hi0, hz0, hz1, hz2⟩ := info_parts info_wtok
  have hml : n + m ≤ maxLen := by simp only [maxLen]; omega
  exact wpList_append_lies _ hgd s x 34 ho base 37 i0 _ 5 48 Tryd.underlying34 hi0 hz0 hz1 hz2 rfl (by omega) v n xs hs hown
    ad m c news hx hl hnews hone hm hml (by omega) hbase w0.heap.size rfl (fun g cap w' h1 h2 _ _ => h g cap w' h1 h2)
theorem flat_one : ∀ (W : List WTok), ∀ u ∈ flat wCells W, u.oneCell' = true
  | [], u, h => by simp [flat] at h
  | t :: W, u, h => by
    simp only [flat, List.mem_append] at h
    rcases h with h | h
    · simp only [wCells, List.mem_cons, List.not_mem_nil, or_false] at h
      rcases h with rfl | rfl | rfl | rfl | rfl <;> rfl
    · exact flat_one W u h
theorem flat_len5 : ∀ (W : List WTok), (flat wCells W).length = W.length * 5
  | [] => rfl
  | t :: W => by simp only [flat, List.length_append, flat_len5 W, List.length_cons, wCells, List.length_nil]; omega
theorem flat_app (W V : List WTok) : flat wCells (W ++ V) = flat wCells W ++ flat wCells V := by
  induction W with
  | nil => rfl
  | cons t W ih => simp only [List.cons_append, flat, ih, List.append_assoc]
/-- A row of no tokens, just made. -/
theorem own_empty (w : World) : (w.alloc (.cells #[] 37)).ownsRow w.heap.size 37 5 (.slice (some ⟨w.heap.size, 0, none⟩) 0 0) 0 [] :=
  ⟨rfl, .inr ⟨w.heap.size, 0, #[], rfl, Nat.le_refl _, heap_alloc_new w _, Nat.le_refl _, Nat.zero_le _, rfl, rfl⟩⟩
/-- The tokens of a row, appended to an empty one. -/
theorem cw_app0 {w : World} {b1 gl capl : Nat} {W : List WTok} (hrow : w.ownsRow b1 37 5 (.slice (some ⟨gl, 0, none⟩) W.length capl) W.length (flat wCells W)) (hW : 0 < W.length) (hW2 : W.length ≤ 1000000)
    {ops : Array Oper} {rest : List Oper} {o : Oper} {a : Act} {Q : Exit → Act → World → Prop} (hgd : o.guard = none) (s x : Operand)
    (ho : o.op = .call { callee := .builtin .append, args := #[s, x], argTypes := #[34, 34] }) (hs : a.eval s = .slice (some ⟨w.heap.size, 0, none⟩) 0 0) (hx : a.eval x = .slice (some ⟨gl, 0, none⟩) W.length capl)
    (h : ∀ g cap w', w'.ownsRow w.heap.size 37 5 (.slice (some ⟨g, 0, none⟩) W.length cap) W.length (flat wCells W) → Below w.heap.size w w' → wpList Tryd.prog ops Q rest (a.put o.dst (.slice (some ⟨g, 0, none⟩) W.length cap)) w') :
    wpList Tryd.prog ops Q (o :: rest) a (w.alloc (.cells #[] 37)) := by
  refine cw_app (own_empty w) (by simp) (Nat.zero_le _) hW hW2 (flat_len5 W) ((own_alloc hrow _).cells rfl) (flat_one W) hgd s x ho hs hx (fun g cap w' h1 h2 => ?_)
  rw [Nat.zero_add, List.nil_append] at h1
  rw [Nat.zero_add]
  refine h g cap w' h1 ?_
  have h3 := Below.alloc (Below.refl w.heap.size w) (Nat.le_refl _) (.cells #[] 37)
  refine h3.trans ⟨h2.os, h2.tape, h2.output, h2.size, fun k hk => h2.block k (by simp; omega) (fun e => ?_)⟩
  simp [Value.ownBlock] at e; omega
/-- A token more. -/
theorem cw_app1 {w : World} {base n : Nat} {v : Value} {xs : List Value} (t : WTok) (hown : w.ownsRow base 37 5 v n xs) (hbase : base ≤ w.heap.size) (hn : n ≤ 1000000)
    {ops : Array Oper} {rest : List Oper} {o : Oper} {a : Act} {Q : Exit → Act → World → Prop} (hgd : o.guard = none) (s x : Operand)
    (ho : o.op = .call { callee := .builtin .append, args := #[s, x], argTypes := #[34, 34] }) (hs : a.eval s = v) (hx : a.eval x = .slice (some ⟨w.heap.size, 0, none⟩) 1 1)
    (h : ∀ g cap w', w'.ownsRow base 37 5 (.slice (some ⟨g, 0, none⟩) (n + 1) cap) (n + 1) (xs ++ wCells t) → Below base w w' → wpList Tryd.prog ops Q rest (a.put o.dst (.slice (some ⟨g, 0, none⟩) (n + 1) cap)) w') :
    wpList Tryd.prog ops Q (o :: rest) a (w.alloc (.cells (wCells t).toArray 37)) := by
  refine cw_app (own_alloc hown _) (by simp; omega) hn Nat.one_pos (by omega) (news := wCells t) rfl (World.news_of_block (cs := (wCells t).toArray) (t := 37) (fr := (0, 0)) (heap_alloc_new w _)) (fun u hu => flat_one [t] u (by simpa [flat] using hu)) hgd s x ho hs hx (fun g cap w' h1 h2 => ?_)
  refine h g cap w' h1 ?_
  have h3 := Below.alloc (Below.refl base w) hbase (.cells (wCells t).toArray 37)
  refine h3.trans ⟨h2.os, h2.tape, h2.output, h2.size, fun k hk => h2.block k (by simp; omega) (fun e => ?_)⟩
  rcases hown.2 with ⟨rfl, _⟩ | ⟨g', cap', cur, rfl, hb, _⟩
  · cases e
  · have e' : some k = some g' := e
    have : k = g' := Option.some.inj e'
    omega
end Sc
end Go.Proofs.YtogkcphobhhbdaaDoor

/- laws.closed walked whole. -/
namespace Go.Proofs.YtogkcphobhhbdaaDoor
open Go Go.RowKit Go.Lib
namespace Sc
open Ev
set_option maxRecDepth 100000
def semiW : WTok := ⟨4, ⟨#[]⟩, 0, 0, 0⟩
def endW : WTok := ⟨0, ⟨#[]⟩, 0, 0, 0⟩
/-- What closed makes of tokens. -/
def closedF (W : List WTok) (t : WTok) : List WTok := if endsW t = true then W ++ [semiW] ++ [endW] else W ++ [endW]
set_option maxHeartbeats 3200000 in
theorem closed_walk {w : World} {b1 gl capl j : Nat} {W : List WTok} {t : WTok} (hrow : w.ownsRow b1 37 5 (.slice (some ⟨gl, 0, none⟩) W.length capl) W.length (flat wCells W)) (hj : W.length = j + 1) (hW2 : W.length ≤ 100000) (ht : W[j]? = some t) :
    Calls Tryd.prog 22 #[.slice (some ⟨gl, 0, none⟩) W.length capl] w fun en w' => ∃ g cap, en = .returned (.slice (some ⟨g, 0, none⟩) (closedF W t).length cap) ∧
      w'.ownsRow w.heap.size 37 5 (.slice (some ⟨g, 0, none⟩) (closedF W t).length cap) (closedF W t).length (flat wCells (closedF W t)) ∧ Below w.heap.size w w' := by
  have hgl : gl < w.heap.size := by
    obtain ⟨g, cap, e, _, h⟩ := hrow.form (by omega)
    have : gl = g := by simpa using congrArg (fun v => match v with | Value.slice (some a) _ _ => a.block | _ => 0) e
    omega
  have hc : ∀ w', Below w.heap.size w w' → Row5 w' gl j t := fun w' hB => row5 (wS := w) hrow hB ht
  have hE : ∀ w, Calls Tryd.prog 35 #[.agg #[.int .i64 t.cls, .string t.text, .int .i64 t.kind, .int .i64 t.line, .int .i64 t.col]] w fun e w' => e = .returned (.bool (endsW t)) ∧ Below w.heap.size w w' := fun w => ends_walk w t
  unfold closedF
  generalize endsW t = en at hE
  have hn1 : (0 : Int) < (W.length : Int) := by omega
  have hwj : IntKind.i64.wrap ((W.length : Int) - 1) = (j : Int) := by rw [hj]; rw [show ((j + 1 : Nat) : Int) - 1 = (j : Int) by omega]; exact i64_small (by omega) (by omega)
  have hj0 : (0 : Int) ≤ (j : Int) := by omega
  have hj1 : (j : Int) < (W.length : Int) := by omega
  have hW1 : 0 < W.length := by omega
  obtain ⟨cls, text, kind, wl, wc⟩ := t
  simp only at hE
  clear hj
  cases en
  · simp only [Bool.false_eq_true, if_false]
    go_enter Tryd.func22, Tryd.ntmps22
    go_wp2_with (first
      | (go_at_call 35; refine (hE _).mono ?_; rintro e2 w2 ⟨rfl, hB2⟩)
      | (at_builtin; refine cw_app1 endW (own_below hB2 h1) (Nat.le_trans hB1.size hB2.size) (by omega) (by rfl) _ _ (by rfl) (by rfl) (by rfl) ?_; intro g3 c3 w3 h3 hB3)
      | (at_builtin; refine cw_app0 hrow hW1 (by omega) (by rfl) _ _ (by rfl) (by rfl) (by rfl) ?_; intro g1 c1 w1 h1 hB1; obtain ⟨k0, k1, k2, k3, k4⟩ := hc w1 hB1))
    have hz : (W ++ [endW]).length = W.length + 1 := by simp
    refine ⟨rfl, _, one_res (k := 2) (by kernel_rfl) rfl, g3, c3, by rw [hz]; rfl, ?_, hB1.trans ((below_weak hB2 hB1.size).trans hB3)⟩
    rw [hz, flat_app]
    simpa [flat] using h3
  · simp only [if_true]
    go_enter Tryd.func22, Tryd.ntmps22
    go_wp2_with (first
      | (go_at_call 35; refine (hE _).mono ?_; rintro e2 w2 ⟨rfl, hB2⟩)
      | (at_builtin; refine cw_app1 endW h4 (Nat.le_trans hB1.size (Nat.le_trans hB2.size hB4.size)) (by omega) (by rfl) _ _ (by rfl) (by rfl) (by rfl) ?_; intro g3 c3 w3 h3 hB3)
      | (at_builtin; refine cw_app1 semiW (own_below hB2 h1) (Nat.le_trans hB1.size hB2.size) (by omega) (by rfl) _ _ (by rfl) (by rfl) (by rfl) ?_; intro g4 c4 w4 h4 hB4)
      | (at_builtin; refine cw_app0 hrow hW1 (by omega) (by rfl) _ _ (by rfl) (by rfl) (by rfl) ?_; intro g1 c1 w1 h1 hB1; obtain ⟨k0, k1, k2, k3, k4⟩ := hc w1 hB1))
    have hz : (W ++ [semiW] ++ [endW]).length = W.length + 1 + 1 := by simp
    refine ⟨rfl, _, one_res (k := 2) (by kernel_rfl) rfl, g3, c3, by rw [hz]; rfl, ?_, hB1.trans ((below_weak hB2 hB1.size).trans (hB4.trans hB3))⟩
    rw [hz, flat_app, flat_app]
    simpa [flat] using h3
end Sc
end Go.Proofs.YtogkcphobhhbdaaDoor

/-
  DERIVED: THE SHELF's CONTRACTS AT THIS DUMP, IN PLAIN WORDS (tools/lay-plain.mjs out of 'TrydShelf.lean', which tools/lay-shelf.mjs wrote): THE SAME DECLARATIONS UNDER THE SAME NAMES: 'import', 'namespace', 'open', 'def', 'theorem' AND NOTHING ELSE: no command of the shelf's: FOR A HAND-IN. Each laying: the table of numbers ('.._ren') and one theorem, a field a fact of the dump's own or the kernel's comparison; each contract: ONE APPLICATION.
-/
namespace Go.Proofs
open Go.Shelf
def Tryd.lays99_ren : Go.Shelf.Ren := ⟨fun | 99 => 36 | 206 => 57 | n => n, fun | 9 => 9 | 4 => 4 | 3 => 3 | n => n, fun | n => n⟩
theorem Tryd.lays99 : Go.Proofs.Lays.n99 Tryd.prog Tryd.lays99_ren := {
  mixed := by kernel_rfl
  f99 := Tryd.func36.trans (congrArg some (by kernel_rfl))
  f206 := Tryd.func57.trans (congrArg some (by kernel_rfl))
  t3 := Tryd.underlying3
  a3 := Tryd.isAgg3
  z3 := Tryd.sizeOf3
  v3 := Tryd.zeroValue3
  t4 := Tryd.underlying4
  a4 := Tryd.isAgg4
  z4 := Tryd.sizeOf4
  v4 := Tryd.zeroValue4
  t9 := Tryd.underlying9
  a9 := Tryd.isAgg9
  z9 := Tryd.sizeOf9
  v9 := Tryd.zeroValue9 }
open Go.RowKit Go.Lib in
/-- strings.HasPrefix: "HasPrefix reports whether the string s begins with prefix.": IT RETURNS 'Lib.hasPrefix s prefix'; the world is as it was. (LAID: no walk: one application.) -/
theorem Tryd.strings_HasPrefix (s p : ByteArray) (w : World) :
    Calls Tryd.prog 36 #[.string s, .string p] w fun e w' => e = .returned (.bool (Lib.hasPrefix s.data.toList p.data.toList)) ∧ w' = w := Any.strings_HasPrefix Tryd.lays99 s p w
end Go.Proofs

/- spec.TextOk walked. -/
namespace Go.Proofs.YtogkcphobhhbdaaDoor
open Go Go.RowKit Go.Lib
namespace Sc
open Ev
set_option maxRecDepth 100000
/-- Known slots of a frame of 23. -/
structure ST (v0 vi : Value) (a : Act) : Prop where
  defers : a.defers = []
  size : a.tmps.size = 23
  s0 : a.tmps[0]? = some v0
  s6 : a.tmps[6]? = some vi
theorem ST.lit {v0 vi : Value} {a : Act} (h : ST v0 vi a) : ∃ x : Nat → Value, a = { tmps := #[v0, x 1, x 2, x 3, x 4, x 5, vi, x 7, x 8, x 9, x 10, x 11, x 12, x 13, x 14, x 15, x 16, x 17, x 18, x 19, x 20, x 21, x 22], defers := [] } := by
  refine ⟨fun i => a.tmps.getD i undef, ?_⟩
  obtain ⟨t, d⟩ := a
  obtain ⟨h1, h2, k0, k6⟩ := h
  simp only at h1 h2 k0 k6
  subst h1
  have e0 : t.getD 0 undef = v0 := by rw [Array.getD_eq_getD_getElem?, k0]; rfl
  have e6 : t.getD 6 undef = vi := by rw [Array.getD_eq_getD_getElem?, k6]; rfl
  have ht := tmpsN 23 t h2
  rw [← e0, ← e6]
  exact congrArg (fun t => ({ tmps := t, defers := [] } : Act)) ht
theorem ST.of {v0 vi : Value} (x : Nat → Value) : ST v0 vi { tmps := #[v0, x 1, x 2, x 3, x 4, x 5, vi, x 7, x 8, x 9, x 10, x 11, x 12, x 13, x 14, x 15, x 16, x 17, x 18, x 19, x 20, x 21, x 22], defers := [] } := ⟨rfl, rfl, rfl, rfl⟩
end Sc
end Go.Proofs.YtogkcphobhhbdaaDoor

/- Plain: a text within a text; texts that TextOk takes are characters that follow one another. -/
namespace Go.Proofs.YtogkcphobhhbdaaDoor
open Go Go.RowKit Go.Lib
namespace Sc
open Ev
set_option maxRecDepth 100000
/-- A text stands in another one from k on. -/
structure Sub (T : ByteArray) (k : Nat) (s : ByteArray) : Prop where
  le : k + s.size ≤ T.size
  get : ∀ j, j < s.size → T.get! (k + j) = s.get! j
end Sc
end Go.Proofs.YtogkcphobhhbdaaDoor

/- Plain: a text of one literal; texts put together. -/
namespace Go.Proofs.YtogkcphobhhbdaaDoor
open Go Go.RowKit Go.Lib
namespace Sc
open Ev
set_option maxRecDepth 100000
theorem app_list (a b : ByteArray) : (a ++ b).data.toList = a.data.toList ++ b.data.toList := by
  rw [ByteArray.data_append, Array.toList_append]
theorem app_size (a b : ByteArray) : (a ++ b).size = a.size + b.size := ByteArray.size_append
theorem get_left (a b : ByteArray) (i : Nat) (h : i < a.size) : (a ++ b).get! i = a.get! i := by
  rw [get_list, get_list, app_list]
  have hl : i < a.data.toList.length := by rw [size_toList]; exact h
  simp only [List.getD_eq_getElem?_getD]
  rw [List.getElem?_append_left hl]
theorem get_right (a b : ByteArray) (i : Nat) : (a ++ b).get! (a.size + i) = b.get! i := by
  rw [get_list, get_list, app_list]
  have hl : a.data.toList.length = a.size := size_toList a
  simp only [List.getD_eq_getElem?_getD]
  rw [List.getElem?_append_right (by omega), hl, Nat.add_sub_cancel_left]
theorem sub_self (a : ByteArray) : Sub a 0 a := ⟨by omega, fun j _ => by rw [Nat.zero_add]⟩
theorem Sub.left {T a : ByteArray} {k : Nat} (h : Sub T k a) (b : ByteArray) : Sub (T ++ b) k a := by
  have hl := h.le
  exact ⟨by rw [app_size]; omega, fun j hj => by rw [get_left _ _ _ (by omega)]; exact h.get j hj⟩
theorem Sub.right {T a : ByteArray} {k : Nat} (h : Sub T k a) (b : ByteArray) : Sub (b ++ T) (b.size + k) a := by
  have hl := h.le
  exact ⟨by rw [app_size]; omega, fun j hj => by rw [Nat.add_assoc, get_right]; exact h.get j hj⟩
theorem Sub.byte {T a : ByteArray} {k : Nat} (h : Sub T k a) {j : Nat} (hj : j < a.size) : T.get! (k + j) = a.get! j := h.get j hj
theorem word_semi : (tokWord 18).toList = [59] := by kernel_rfl
theorem like_end {s : St} (h : s.tok = 1) : Like s endW := by
  refine ⟨?_, fun h => by cases h⟩
  rw [h]
  show toldF (tokWord 1) _ _ = (0, ⟨#[]⟩)
  unfold toldF
  rw [if_pos word_one]
theorem like_semi {s : St} (h : s.tok = 18) (h2 : s.lit = wEOF) : Like s semiW := by
  refine ⟨?_, fun h => by cases h⟩
  rw [h, h2]
  show toldF (tokWord 18) wEOF (opStr s.op) = (4, ⟨#[]⟩)
  unfold toldF
  have e : wEOF.toList = [69, 79, 70] := by kernel_rfl
  rw [word_semi, e]
  rfl
end Sc
end Go.Proofs.YtogkcphobhhbdaaDoor

/- Bytes appended beside an iterator. -/
namespace Go.Proofs.YtogkcphobhhbdaaDoor
open Go Go.RowKit Go.Lib
namespace Sc
open Ev
set_option maxRecDepth 100000
/-- Old blocks below B are as they were; a string's iterator, too. -/
structure Frm (B : Nat) (w w' : World) : Prop where
  below : Below B w w'
  iter : ∀ (k : Nat) (s : ByteArray) (pos : Nat), w.heap[k]? = some (Obj.stringIter s pos) → w'.heap[k]? = some (Obj.stringIter s pos)
theorem Frm.refl (B : Nat) (w : World) : Frm B w w := ⟨Below.refl _ _, fun _ _ _ h => h⟩
theorem Frm.trans {B : Nat} {a b c : World} (h : Frm B a b) (h' : Frm B b c) : Frm B a c := ⟨h.below.trans h'.below, fun k s pos h0 => h'.iter k s pos (h.iter k s pos h0)⟩
theorem lt_of_some {w : World} {k : Nat} {o : Obj} (h : w.heap[k]? = some o) : k < w.heap.size := by
  rcases Nat.lt_or_ge k w.heap.size with h1 | h1
  · exact h1
  · rw [Array.getElem?_eq_none h1] at h; cases h
theorem fr_alloc {B : Nat} {w : World} (hB : B ≤ w.heap.size) (o : Obj) : Frm B w (w.alloc o) :=
  ⟨Below.alloc (Below.refl _ _) hB o, fun k s pos h => by rw [(Below.alloc (Below.refl w.heap.size w) (Nat.le_refl _) o).block k (lt_of_some h)]; exact h⟩
def bc (l : List Int) : List Value := l.map (fun x => .int .u8 x)
end Sc
end Go.Proofs.YtogkcphobhhbdaaDoor

/- spec.Quoted walked: the digits of a number. -/
namespace Go.Proofs.YtogkcphobhhbdaaDoor
open Go Go.RowKit Go.Lib
namespace Sc
open Ev
set_option maxRecDepth 100000
/-- Known slots of a frame of 95. -/
structure SQ (v0 v1 v2 vo vr vk vi : Value) (a : Act) : Prop where
  defers : a.defers = []
  size : a.tmps.size = 95
  s0 : a.tmps[0]? = some v0
  s1 : a.tmps[1]? = some v1
  s2 : a.tmps[2]? = some v2
  s7 : a.tmps[7]? = some vo
  s9 : a.tmps[9]? = some vr
  s10 : a.tmps[10]? = some vk
  s14 : a.tmps[14]? = some vi
theorem SQ.lit {v0 v1 v2 vo vr vk vi : Value} {a : Act} (h : SQ v0 v1 v2 vo vr vk vi a) : ∃ x : Nat → Value, a = { tmps := #[v0, v1, v2, x 3, x 4, x 5, x 6, vo, x 8, vr, vk, x 11, x 12, x 13, vi, x 15, x 16, x 17, x 18, x 19, x 20, x 21, x 22, x 23, x 24, x 25, x 26, x 27, x 28, x 29, x 30, x 31, x 32, x 33, x 34, x 35, x 36, x 37, x 38, x 39, x 40, x 41, x 42, x 43, x 44, x 45, x 46, x 47, x 48, x 49, x 50, x 51, x 52, x 53, x 54, x 55, x 56, x 57, x 58, x 59, x 60, x 61, x 62, x 63, x 64, x 65, x 66, x 67, x 68, x 69, x 70, x 71, x 72, x 73, x 74, x 75, x 76, x 77, x 78, x 79, x 80, x 81, x 82, x 83, x 84, x 85, x 86, x 87, x 88, x 89, x 90, x 91, x 92, x 93, x 94], defers := [] } := by
  refine ⟨fun i => a.tmps.getD i undef, ?_⟩
  obtain ⟨t, d⟩ := a
  obtain ⟨h1, h2, k0, k1, k2, k7, k9, k10, k14⟩ := h
  simp only at h1 h2 k0 k1 k2 k7 k9 k10 k14
  subst h1
  have e0 : t.getD 0 undef = v0 := by rw [Array.getD_eq_getD_getElem?, k0]; rfl
  have e1 : t.getD 1 undef = v1 := by rw [Array.getD_eq_getD_getElem?, k1]; rfl
  have e2 : t.getD 2 undef = v2 := by rw [Array.getD_eq_getD_getElem?, k2]; rfl
  have e7 : t.getD 7 undef = vo := by rw [Array.getD_eq_getD_getElem?, k7]; rfl
  have e9 : t.getD 9 undef = vr := by rw [Array.getD_eq_getD_getElem?, k9]; rfl
  have e10 : t.getD 10 undef = vk := by rw [Array.getD_eq_getD_getElem?, k10]; rfl
  have e14 : t.getD 14 undef = vi := by rw [Array.getD_eq_getD_getElem?, k14]; rfl
  have ht := tmpsN 95 t h2
  rw [← e0, ← e1, ← e2, ← e7, ← e9, ← e10, ← e14]
  exact congrArg (fun t => ({ tmps := t, defers := [] } : Act)) ht
theorem SQ.of {v0 v1 v2 vo vr vk vi : Value} (x : Nat → Value) : SQ v0 v1 v2 vo vr vk vi { tmps := #[v0, v1, v2, x 3, x 4, x 5, x 6, vo, x 8, vr, vk, x 11, x 12, x 13, vi, x 15, x 16, x 17, x 18, x 19, x 20, x 21, x 22, x 23, x 24, x 25, x 26, x 27, x 28, x 29, x 30, x 31, x 32, x 33, x 34, x 35, x 36, x 37, x 38, x 39, x 40, x 41, x 42, x 43, x 44, x 45, x 46, x 47, x 48, x 49, x 50, x 51, x 52, x 53, x 54, x 55, x 56, x 57, x 58, x 59, x 60, x 61, x 62, x 63, x 64, x 65, x 66, x 67, x 68, x 69, x 70, x 71, x 72, x 73, x 74, x 75, x 76, x 77, x 78, x 79, x 80, x 81, x 82, x 83, x 84, x 85, x 86, x 87, x 88, x 89, x 90, x 91, x 92, x 93, x 94], defers := [] } := ⟨rfl, rfl, rfl, rfl, rfl, rfl, rfl, rfl, rfl⟩
end Sc
end Go.Proofs.YtogkcphobhhbdaaDoor

/- spec.Quoted walked: a round of its loop. -/
namespace Go.Proofs.YtogkcphobhhbdaaDoor
open Go Go.RowKit Go.Lib
namespace Sc
open Ev
set_option maxRecDepth 100000
/-- Known slots of a frame of 95. -/
structure SQ5 (v0 v1 v2 vo vi : Value) (a : Act) : Prop where
  defers : a.defers = []
  size : a.tmps.size = 95
  s0 : a.tmps[0]? = some v0
  s1 : a.tmps[1]? = some v1
  s2 : a.tmps[2]? = some v2
  s7 : a.tmps[7]? = some vo
  s14 : a.tmps[14]? = some vi
theorem SQ5.lit {v0 v1 v2 vo vi : Value} {a : Act} (h : SQ5 v0 v1 v2 vo vi a) : ∃ x : Nat → Value, a = { tmps := #[v0, v1, v2, x 3, x 4, x 5, x 6, vo, x 8, x 9, x 10, x 11, x 12, x 13, vi, x 15, x 16, x 17, x 18, x 19, x 20, x 21, x 22, x 23, x 24, x 25, x 26, x 27, x 28, x 29, x 30, x 31, x 32, x 33, x 34, x 35, x 36, x 37, x 38, x 39, x 40, x 41, x 42, x 43, x 44, x 45, x 46, x 47, x 48, x 49, x 50, x 51, x 52, x 53, x 54, x 55, x 56, x 57, x 58, x 59, x 60, x 61, x 62, x 63, x 64, x 65, x 66, x 67, x 68, x 69, x 70, x 71, x 72, x 73, x 74, x 75, x 76, x 77, x 78, x 79, x 80, x 81, x 82, x 83, x 84, x 85, x 86, x 87, x 88, x 89, x 90, x 91, x 92, x 93, x 94], defers := [] } := by
  refine ⟨fun i => a.tmps.getD i undef, ?_⟩
  obtain ⟨t, d⟩ := a
  obtain ⟨h1, h2, k0, k1, k2, k7, k14⟩ := h
  simp only at h1 h2 k0 k1 k2 k7 k14
  subst h1
  have e0 : t.getD 0 undef = v0 := by rw [Array.getD_eq_getD_getElem?, k0]; rfl
  have e1 : t.getD 1 undef = v1 := by rw [Array.getD_eq_getD_getElem?, k1]; rfl
  have e2 : t.getD 2 undef = v2 := by rw [Array.getD_eq_getD_getElem?, k2]; rfl
  have e7 : t.getD 7 undef = vo := by rw [Array.getD_eq_getD_getElem?, k7]; rfl
  have e14 : t.getD 14 undef = vi := by rw [Array.getD_eq_getD_getElem?, k14]; rfl
  have ht := tmpsN 95 t h2
  rw [← e0, ← e1, ← e2, ← e7, ← e14]
  exact congrArg (fun t => ({ tmps := t, defers := [] } : Act)) ht
theorem SQ5.of {v0 v1 v2 vo vi : Value} (x : Nat → Value) : SQ5 v0 v1 v2 vo vi { tmps := #[v0, v1, v2, x 3, x 4, x 5, x 6, vo, x 8, x 9, x 10, x 11, x 12, x 13, vi, x 15, x 16, x 17, x 18, x 19, x 20, x 21, x 22, x 23, x 24, x 25, x 26, x 27, x 28, x 29, x 30, x 31, x 32, x 33, x 34, x 35, x 36, x 37, x 38, x 39, x 40, x 41, x 42, x 43, x 44, x 45, x 46, x 47, x 48, x 49, x 50, x 51, x 52, x 53, x 54, x 55, x 56, x 57, x 58, x 59, x 60, x 61, x 62, x 63, x 64, x 65, x 66, x 67, x 68, x 69, x 70, x 71, x 72, x 73, x 74, x 75, x 76, x 77, x 78, x 79, x 80, x 81, x 82, x 83, x 84, x 85, x 86, x 87, x 88, x 89, x 90, x 91, x 92, x 93, x 94], defers := [] } := ⟨rfl, rfl, rfl, rfl, rfl, rfl, rfl⟩
/-- A code with another block's inside. -/
def setBlk (i : Nat) (L : Code) : Code → Code
  | .seq a b => .seq (setBlk i L a) (setBlk i L b)
  | .cond o a b => .cond o (setBlk i L a) (setBlk i L b)
  | .block j b => bif Nat.beq j i then .block j L else .block j (setBlk i L b)
  | .loop b => .loop (setBlk i L b)
  | c => c
end Sc
end Go.Proofs.YtogkcphobhhbdaaDoor

/- Plain: escapes, whole. -/
namespace Go.Proofs.YtogkcphobhhbdaaDoor
open Go Go.RowKit Go.Lib
namespace Sc
open Ev
set_option maxRecDepth 100000
def noPoint (v : Int) : Prop := v > 1114111 ∨ (55296 ≤ v ∧ v < 57344)
instance (v : Int) : Decidable (noPoint v) := by unfold noPoint; infer_instance
end Sc
end Go.Proofs.YtogkcphobhhbdaaDoor

/- Plain: a valid character's bytes, put together again and read again. -/
namespace Go.Proofs.YtogkcphobhhbdaaDoor
open Go Go.RowKit Go.Lib
namespace Sc
open Ev
set_option maxRecDepth 100000
/-- Bytes stand in a text from k on. -/
structure Byt (T : ByteArray) (k : Nat) (l : List Int) : Prop where
  le : k + l.length ≤ T.size
  get : ∀ (j : Nat) (x : Int), l[j]? = some x → ((T.get! (k + j)).toNat : Int) = x
theorem Byt.left {T : ByteArray} {k : Nat} {a b : List Int} (h : Byt T k (a ++ b)) : Byt T k a := by
  have := h.le
  rw [List.length_append] at this
  refine ⟨by omega, fun j x hj => h.get j x ?_⟩
  have hlt : j < a.length := (List.getElem?_eq_some_iff.1 hj).1
  rw [List.getElem?_append_left hlt]; exact hj
theorem Byt.right {T : ByteArray} {k : Nat} {a b : List Int} (h : Byt T k (a ++ b)) : Byt T (k + a.length) b := by
  have := h.le
  rw [List.length_append] at this
  refine ⟨by omega, fun j x hj => ?_⟩
  have := h.get (a.length + j) x (by rw [List.getElem?_append_right (by omega), Nat.add_sub_cancel_left]; exact hj)
  rw [Nat.add_assoc]; exact this
theorem Byt.tail {T : ByteArray} {k : Nat} {x : Int} {l : List Int} (h : Byt T k (x :: l)) : Byt T (k + 1) l := by
  have : Byt T k ([x] ++ l) := h
  exact this.right
end Sc
end Go.Proofs.YtogkcphobhhbdaaDoor

/- FnString walked: true at every text. -/
namespace Go.Proofs.YtogkcphobhhbdaaDoor
open Go Go.RowKit Go.Lib
namespace Sc
open Ev
set_option maxRecDepth 100000
theorem below_up {a b c : World} (h : Below a.heap.size a b) (h' : Below b.heap.size b c) : Below a.heap.size a c := h.trans (below_weak h' h.size)
end Sc
end Go.Proofs.YtogkcphobhhbdaaDoor

/- FnRune walked: the count of characters. -/
namespace Go.Proofs.YtogkcphobhhbdaaDoor
open Go Go.RowKit Go.Lib
namespace Sc
open Ev
set_option maxRecDepth 100000
/-- Known slots of a frame of 32. -/
structure SRu (v0 vt vn vi : Value) (a : Act) : Prop where
  defers : a.defers = []
  size : a.tmps.size = 32
  s0 : a.tmps[0]? = some v0
  s3 : a.tmps[3]? = some vt
  s4 : a.tmps[4]? = some vn
  s17 : a.tmps[17]? = some vi
theorem SRu.lit {v0 vt vn vi : Value} {a : Act} (h : SRu v0 vt vn vi a) : ∃ x : Nat → Value, a = { tmps := #[v0, x 1, x 2, vt, vn, x 5, x 6, x 7, x 8, x 9, x 10, x 11, x 12, x 13, x 14, x 15, x 16, vi, x 18, x 19, x 20, x 21, x 22, x 23, x 24, x 25, x 26, x 27, x 28, x 29, x 30, x 31], defers := [] } := by
  refine ⟨fun i => a.tmps.getD i undef, ?_⟩
  obtain ⟨t, d⟩ := a
  obtain ⟨h1, h2, k0, k3, k4, k17⟩ := h
  simp only at h1 h2 k0 k3 k4 k17
  subst h1
  have e0 : t.getD 0 undef = v0 := by rw [Array.getD_eq_getD_getElem?, k0]; rfl
  have e3 : t.getD 3 undef = vt := by rw [Array.getD_eq_getD_getElem?, k3]; rfl
  have e4 : t.getD 4 undef = vn := by rw [Array.getD_eq_getD_getElem?, k4]; rfl
  have e17 : t.getD 17 undef = vi := by rw [Array.getD_eq_getD_getElem?, k17]; rfl
  have ht := tmpsN 32 t h2
  rw [← e0, ← e3, ← e4, ← e17]
  exact congrArg (fun t => ({ tmps := t, defers := [] } : Act)) ht
theorem SRu.of {v0 vt vn vi : Value} (x : Nat → Value) : SRu v0 vt vn vi { tmps := #[v0, x 1, x 2, vt, vn, x 5, x 6, x 7, x 8, x 9, x 10, x 11, x 12, x 13, x 14, x 15, x 16, vi, x 18, x 19, x 20, x 21, x 22, x 23, x 24, x 25, x 26, x 27, x 28, x 29, x 30, x 31], defers := [] } := ⟨rfl, rfl, rfl, rfl, rfl, rfl⟩
end Sc
end Go.Proofs.YtogkcphobhhbdaaDoor

/- spec.Index walked. -/
namespace Go.Proofs.YtogkcphobhhbdaaDoor
open Go Go.RowKit Go.Lib
namespace Sc
open Ev
set_option maxRecDepth 100000
/-- Known slots of a frame of 25. -/
structure SIx (v0 v1 vi : Value) (a : Act) : Prop where
  defers : a.defers = []
  size : a.tmps.size = 25
  s0 : a.tmps[0]? = some v0
  s1 : a.tmps[1]? = some v1
  s5 : a.tmps[5]? = some vi
theorem SIx.lit {v0 v1 vi : Value} {a : Act} (h : SIx v0 v1 vi a) : ∃ x : Nat → Value, a = { tmps := #[v0, v1, x 2, x 3, x 4, vi, x 6, x 7, x 8, x 9, x 10, x 11, x 12, x 13, x 14, x 15, x 16, x 17, x 18, x 19, x 20, x 21, x 22, x 23, x 24], defers := [] } := by
  refine ⟨fun i => a.tmps.getD i undef, ?_⟩
  obtain ⟨t, d⟩ := a
  obtain ⟨h1, h2, k0, k1, k5⟩ := h
  simp only at h1 h2 k0 k1 k5
  subst h1
  have e0 : t.getD 0 undef = v0 := by rw [Array.getD_eq_getD_getElem?, k0]; rfl
  have e1 : t.getD 1 undef = v1 := by rw [Array.getD_eq_getD_getElem?, k1]; rfl
  have e5 : t.getD 5 undef = vi := by rw [Array.getD_eq_getD_getElem?, k5]; rfl
  have ht := tmpsN 25 t h2
  rw [← e0, ← e1, ← e5]
  exact congrArg (fun t => ({ tmps := t, defers := [] } : Act)) ht
theorem SIx.of {v0 v1 vi : Value} (x : Nat → Value) : SIx v0 v1 vi { tmps := #[v0, v1, x 2, x 3, x 4, vi, x 6, x 7, x 8, x 9, x 10, x 11, x 12, x 13, x 14, x 15, x 16, x 17, x 18, x 19, x 20, x 21, x 22, x 23, x 24], defers := [] } := ⟨rfl, rfl, rfl, rfl, rfl⟩
end Sc
end Go.Proofs.YtogkcphobhhbdaaDoor

/- Plain: names. -/
namespace Go.Proofs.YtogkcphobhhbdaaDoor
open Go Go.RowKit Go.Lib
namespace Sc
open Ev
set_option maxRecDepth 100000
/-- A letter, or a low line. -/
def letR (r : Int) : Bool := isLetterU r || r == 95
/-- That, or a digit. -/
def idR (r : Int) : Bool := letR r || isDigitU r
theorem id_end : idR (-1) = false := by decide +kernel
/-- Behind what a name ends: the end, or a sign of one byte that is no part of a name. -/
def IdEnd (src : ByteArray) (q : Nat) : Prop := Cln src q ∧ ∀ r w, ChAt src q r w → idR r = false ∧ r < 128
theorem Std.no {src : ByteArray} {q : Nat} {st : St} (h : Std src q st) (he : IdEnd src q) : idR st.ch = false ∧ st.ch < 128 := by
  rcases h.ch with h1 | ⟨_, h1, _⟩
  · exact he.2 _ _ h1
  · rw [h1]; exact ⟨id_end, by decide⟩
theorem toList_inj {a b : ByteArray} (h : a.toList = b.toList) : a = b := by
  rw [ByteArray.toList_eq, ByteArray.toList_eq] at h
  apply ByteArray.ext
  exact Array.toList_inj.1 h
def nameW (s : ByteArray) : WTok := ⟨1, s, 0, 0, 0⟩
end Sc
end Go.Proofs.YtogkcphobhhbdaaDoor

/- spec.isLetter, spec.IsKeyword and spec.IsName walked. -/
namespace Go.Proofs.YtogkcphobhhbdaaDoor
open Go Go.RowKit Go.Lib
namespace Sc
open Ev
set_option maxRecDepth 100000
/-- Known slots of a frame of 34. -/
structure SNm (v0 vi : Value) (a : Act) : Prop where
  defers : a.defers = []
  size : a.tmps.size = 34
  s0 : a.tmps[0]? = some v0
  s6 : a.tmps[6]? = some vi
theorem SNm.lit {v0 vi : Value} {a : Act} (h : SNm v0 vi a) : ∃ x : Nat → Value, a = { tmps := #[v0, x 1, x 2, x 3, x 4, x 5, vi, x 7, x 8, x 9, x 10, x 11, x 12, x 13, x 14, x 15, x 16, x 17, x 18, x 19, x 20, x 21, x 22, x 23, x 24, x 25, x 26, x 27, x 28, x 29, x 30, x 31, x 32, x 33], defers := [] } := by
  refine ⟨fun i => a.tmps.getD i undef, ?_⟩
  obtain ⟨t, d⟩ := a
  obtain ⟨h1, h2, k0, k6⟩ := h
  simp only at h1 h2 k0 k6
  subst h1
  have e0 : t.getD 0 undef = v0 := by rw [Array.getD_eq_getD_getElem?, k0]; rfl
  have e6 : t.getD 6 undef = vi := by rw [Array.getD_eq_getD_getElem?, k6]; rfl
  have ht := tmpsN 34 t h2
  rw [← e0, ← e6]
  exact congrArg (fun t => ({ tmps := t, defers := [] } : Act)) ht
theorem SNm.of {v0 vi : Value} (x : Nat → Value) : SNm v0 vi { tmps := #[v0, x 1, x 2, x 3, x 4, x 5, vi, x 7, x 8, x 9, x 10, x 11, x 12, x 13, x 14, x 15, x 16, x 17, x 18, x 19, x 20, x 21, x 22, x 23, x 24, x 25, x 26, x 27, x 28, x 29, x 30, x 31, x 32, x 33], defers := [] } := ⟨rfl, rfl, rfl, rfl⟩
end Sc
end Go.Proofs.YtogkcphobhhbdaaDoor

/- spec.allOf walked. -/
namespace Go.Proofs.YtogkcphobhhbdaaDoor
open Go Go.RowKit Go.Lib
namespace Sc
open Ev
set_option maxRecDepth 100000
/-- Known slots of a frame of 20. -/
structure SO (v0 v1 vi : Value) (a : Act) : Prop where
  defers : a.defers = []
  size : a.tmps.size = 20
  s0 : a.tmps[0]? = some v0
  s1 : a.tmps[1]? = some v1
  s5 : a.tmps[5]? = some vi
theorem SO.lit {v0 v1 vi : Value} {a : Act} (h : SO v0 v1 vi a) : ∃ x : Nat → Value, a = { tmps := #[v0, v1, x 2, x 3, x 4, vi, x 6, x 7, x 8, x 9, x 10, x 11, x 12, x 13, x 14, x 15, x 16, x 17, x 18, x 19], defers := [] } := by
  refine ⟨fun i => a.tmps.getD i undef, ?_⟩
  obtain ⟨t, d⟩ := a
  obtain ⟨h1, h2, k0, k1, k5⟩ := h
  simp only at h1 h2 k0 k1 k5
  subst h1
  have e0 : t.getD 0 undef = v0 := by rw [Array.getD_eq_getD_getElem?, k0]; rfl
  have e1 : t.getD 1 undef = v1 := by rw [Array.getD_eq_getD_getElem?, k1]; rfl
  have e5 : t.getD 5 undef = vi := by rw [Array.getD_eq_getD_getElem?, k5]; rfl
  have ht := tmpsN 20 t h2
  rw [← e0, ← e1, ← e5]
  exact congrArg (fun t => ({ tmps := t, defers := [] } : Act)) ht
theorem SO.of {v0 v1 vi : Value} (x : Nat → Value) : SO v0 v1 vi { tmps := #[v0, v1, x 2, x 3, x 4, vi, x 6, x 7, x 8, x 9, x 10, x 11, x 12, x 13, x 14, x 15, x 16, x 17, x 18, x 19], defers := [] } := ⟨rfl, rfl, rfl, rfl, rfl⟩
theorem get_bang (s : ByteArray) (i : Nat) (h : i < s.size) : s.get! i = s[i] := by
  simp [ByteArray.get!, getElem!_pos, h]
  rfl
end Sc
end Go.Proofs.YtogkcphobhhbdaaDoor

/- spec.Words walked. -/
namespace Go.Proofs.YtogkcphobhhbdaaDoor
open Go Go.RowKit Go.Lib
namespace Sc
open Ev
set_option maxRecDepth 100000
theorem info_str : (Tryd.prog.info? 9).map (fun i => (i.zero, i.size, i.bytes)) = some (some (.string ⟨#[]⟩), 1, 16) := by kernel_rfl
/-- A row of texts. -/
def strs (l : List ByteArray) : List Value := l.map fun s => .string s
/-- A row of no texts, just made. -/
theorem own_nostr (w : World) : (w.alloc (.cells #[] 9)).ownsRow w.heap.size 9 1 (.slice (some ⟨w.heap.size, 0, none⟩) 0 0) 0 [] :=
  ⟨rfl, .inr ⟨w.heap.size, 0, #[], rfl, Nat.le_refl _, heap_alloc_new w _, Nat.le_refl _, Nat.zero_le _, rfl, rfl⟩⟩
/-- A text more. -/
theorem st_app1 {w : World} {base n : Nat} {v : Value} {xs : List Value} (t : ByteArray) (hown : w.ownsRow base 9 1 v n xs) (hbase : base ≤ w.heap.size) (hn : n ≤ 1000000)
    {ops : Array Oper} {rest : List Oper} {o : Oper} {a : Act} {Q : Exit → Act → World → Prop} (hgd : o.guard = none) (s x : Operand)
    (ho : o.op = .call { callee := .builtin .append, args := #[s, x], argTypes := #[38, 38] }) (hs : a.eval s = v) (hx : a.eval x = .slice (some ⟨w.heap.size, 0, none⟩) 1 1)
    (h : ∀ g cap w', w'.ownsRow base 9 1 (.slice (some ⟨g, 0, none⟩) (n + 1) cap) (n + 1) (xs ++ [.string t]) → Below base w w' → wpList Tryd.prog ops Q rest (a.put o.dst (.slice (some ⟨g, 0, none⟩) (n + 1) cap)) w') :
    wpList Tryd.prog ops Q (o :: rest) a (w.alloc (.cells #[.string t] 9)) := by
  obtain ⟨i0, hi0, hz0, hz1, hz2⟩ := info_parts info_str
  have hml : n + 1 ≤ maxLen := by simp only [maxLen]; omega
  refine wpList_append_lies _ hgd s x 38 ho base 9 i0 _ 1 16 Tryd.underlying38 hi0 hz0 hz1 hz2 rfl (by omega) v n xs hs (own_alloc hown _)
    ⟨w.heap.size, 0, none⟩ 1 1 [.string t] hx rfl (World.news_of_block (cs := #[.string t]) (t := 9) (fr := (0, 0)) (heap_alloc_new w _)) (fun u hu => by simp only [List.mem_singleton] at hu; subst hu; rfl) Nat.one_pos hml (by omega) (by simp; omega) (w.alloc (.cells #[.string t] 9)).heap.size rfl (fun g cap w' h1 h2 _ _ => h g cap w' h1 ?_)
  have h3 := Below.alloc (Below.refl base w) hbase (.cells #[.string t] 9)
  refine h3.trans ⟨h2.os, h2.tape, h2.output, h2.size, fun k hk => h2.block k (by simp; omega) (fun e => ?_)⟩
  rcases hown.2 with ⟨rfl, _⟩ | ⟨g', cap', cur, rfl, hb, _⟩
  · cases e
  · have e' : some k = some g' := e
    have : k = g' := Option.some.inj e'
    omega
/-- The words of a text, one blank between any two. -/
def wordsN (s : ByteArray) : Nat → Nat → Nat → List ByteArray
  | 0, _, f => [s.extract f s.size]
  | n + 1, i, f => if i < s.size then (if (s.get! i).toNat = 32 then s.extract f i :: wordsN s n (i + 1) (i + 1) else wordsN s n (i + 1) f) else [s.extract f s.size]
def wordsF (s : ByteArray) : List ByteArray := wordsN s s.size 0 0
/-- Known slots of a frame of 32. -/
structure SWd (v0 vo vf vi : Value) (a : Act) : Prop where
  defers : a.defers = []
  size : a.tmps.size = 32
  s0 : a.tmps[0]? = some v0
  s3 : a.tmps[3]? = some vo
  s4 : a.tmps[4]? = some vf
  s5 : a.tmps[5]? = some vi
theorem SWd.lit {v0 vo vf vi : Value} {a : Act} (h : SWd v0 vo vf vi a) : ∃ x : Nat → Value, a = { tmps := #[v0, x 1, x 2, vo, vf, vi, x 6, x 7, x 8, x 9, x 10, x 11, x 12, x 13, x 14, x 15, x 16, x 17, x 18, x 19, x 20, x 21, x 22, x 23, x 24, x 25, x 26, x 27, x 28, x 29, x 30, x 31], defers := [] } := by
  refine ⟨fun i => a.tmps.getD i undef, ?_⟩
  obtain ⟨t, d⟩ := a
  obtain ⟨h1, h2, k0, k3, k4, k5⟩ := h
  simp only at h1 h2 k0 k3 k4 k5
  subst h1
  have e0 : t.getD 0 undef = v0 := by rw [Array.getD_eq_getD_getElem?, k0]; rfl
  have e3 : t.getD 3 undef = vo := by rw [Array.getD_eq_getD_getElem?, k3]; rfl
  have e4 : t.getD 4 undef = vf := by rw [Array.getD_eq_getD_getElem?, k4]; rfl
  have e5 : t.getD 5 undef = vi := by rw [Array.getD_eq_getD_getElem?, k5]; rfl
  have ht := tmpsN 32 t h2
  rw [← e0, ← e3, ← e4, ← e5]
  exact congrArg (fun t => ({ tmps := t, defers := [] } : Act)) ht
theorem SWd.of {v0 vo vf vi : Value} (x : Nat → Value) : SWd v0 vo vf vi { tmps := #[v0, x 1, x 2, vo, vf, vi, x 6, x 7, x 8, x 9, x 10, x 11, x 12, x 13, x 14, x 15, x 16, x 17, x 18, x 19, x 20, x 21, x 22, x 23, x 24, x 25, x 26, x 27, x 28, x 29, x 30, x 31], defers := [] } := ⟨rfl, rfl, rfl, rfl, rfl, rfl⟩
noncomputable abbrev wdBody : Code := bodyOf Tryd.f23
noncomputable abbrev wdLoop : Code := loopOf (blkOf wdBody 0)
noncomputable abbrev wdP (n : Nat) : Code := fstC (cutTail n wdBody)
theorem wd_body : (Tryd.f23).body = some (.seq (wdP 0) (.seq (wdP 1) (.seq (wdP 2) (.seq (.seq (fstC (wdP 3)) (.block 0 (.loop wdLoop))) (cutTail 4 wdBody))))) := by kernel_rfl
theorem wd_out {w : World} {s : ByteArray} {i : Nat} {vo vf : Value} (h : ¬ i < s.size)
    (a : Act) (hz : SWd (.string s) vo vf (.int .i64 i) a) (Q : Exit → Act → World → Prop) (hQ : ∀ a', SWd (.string s) vo vf (.int .i64 i) a' → Q (.exit 0) a' w) : wdLoop.wp Tryd.prog Q a w := by
  obtain ⟨y, rfl⟩ := hz.lit
  clear hz
  have h1 : ¬ (i : Int) < (s.size : Int) := by omega
  simp only [wdLoop, wdBody, bodyOf, Tryd.f23, Option.getD, blkOf, loopOf, cond, Nat.beq]
  go_wp2_with fail
  exact ⟨rfl, rfl, rfl, rfl, rfl, rfl⟩
set_option maxHeartbeats 1600000 in
theorem wd_round {w : World} {s : ByteArray} {i f base n : Nat} {vo : Value} {xs : List Value} (h : i < s.size) (hs : s.size ≤ 100000) (hf : f ≤ i) (hown : w.ownsRow base 9 1 vo n xs) (hbase : base ≤ w.heap.size) (hn : n ≤ 100000)
    (a : Act) (hz : SWd (.string s) vo (.int .i64 f) (.int .i64 i) a) (Q : Exit → Act → World → Prop)
    (h1 : (s.get! i).toNat = 32 → ∀ a' w' g cap, SWd (.string s) (.slice (some ⟨g, 0, none⟩) (n + 1) cap) (.int .i64 (i + 1 : Nat)) (.int .i64 (i + 1 : Nat)) a' → w'.ownsRow base 9 1 (.slice (some ⟨g, 0, none⟩) (n + 1) cap) (n + 1) (xs ++ [.string (s.extract f i)]) → Below base w w' → Q .normal a' w')
    (h2 : (s.get! i).toNat ≠ 32 → ∀ a', SWd (.string s) vo (.int .i64 f) (.int .i64 (i + 1 : Nat)) a' → Q .normal a' w) : wdLoop.wp Tryd.prog Q a w := by
  obtain ⟨y, rfl⟩ := hz.lit
  clear hz
  have hw1 : IntKind.i64.wrap ((i : Int) + 1) = ((i + 1 : Nat) : Int) := by rw [show (i : Int) + 1 = ((i + 1 : Nat) : Int) by omega]; exact i64_small (by omega) (by omega)
  have k1 : (i : Int) < (s.size : Int) := by omega
  have k2 : (0 : Int) ≤ (i : Int) := by omega
  have k3 : (0 : Int) ≤ (f : Int) := by omega
  have k4 : (f : Int) ≤ (i : Int) := by omega
  have k5 : (i : Int) ≤ (s.size : Int) := by omega
  rw [get_bang s i h] at h1 h2
  by_cases he : s[i].toNat = 32
  · have h1 := h1 he
    clear h2
    have he' : (((s[i].toNat : Nat) : Int) == 32) = true := by simp; omega
    simp only [wdLoop, wdBody, bodyOf, Tryd.f23, Option.getD, blkOf, loopOf, cond, Nat.beq]
    go_wp2_with (at_builtin; refine st_app1 (s.extract f i) hown hbase (by omega) (by rfl) _ _ (by rfl) (by rfl) (by rfl) ?_; intro g cap w1 hw2 hB1)
    all_goals exact h1 _ _ _ _ ⟨rfl, rfl, rfl, rfl, rfl, rfl⟩ hw2 hB1
  · have h2 := h2 he
    clear h1
    have he' : (((s[i].toNat : Nat) : Int) == 32) = false := by simp; omega
    simp only [wdLoop, wdBody, bodyOf, Tryd.f23, Option.getD, blkOf, loopOf, cond, Nat.beq]
    go_wp2_with fail
    all_goals exact ⟨rfl, rfl, rfl, rfl, rfl, rfl⟩
theorem wd_loop {w0 : World} {s : ByteArray} {base : Nat} (hs : s.size ≤ 100000) (hb0 : base ≤ w0.heap.size) (ws : List ByteArray) (Q : Exit → Act → World → Prop)
    (hQ : ∀ a w vo (n f i : Nat) xs, f ≤ s.size → n ≤ s.size → SWd (.string s) vo (.int .i64 f) (.int .i64 i) a → w.ownsRow base 9 1 vo n xs → xs ++ [.string (s.extract f s.size)] = strs ws → Below base w0 w → Q .normal a w) :
    ∀ (d i f n : Nat) (vo : Value) (xs : List Value) (a : Act) (w : World), s.size ≤ i + d → f ≤ i → i ≤ s.size → n ≤ i → SWd (.string s) vo (.int .i64 f) (.int .i64 i) a → w.ownsRow base 9 1 vo n xs → xs ++ strs (wordsN s d i f) = strs ws → Below base w0 w →
      Code.rounds Tryd.prog wdLoop (Exit.inBlock 0 Q) (d + 1) a w
  | 0, i, f, n, vo, xs, a, w, hd, hf, hi, hn, hz, hown, hx, hB => by
    rw [rounds_succ]
    exact wd_out (by omega) a hz _ (fun a' z' => hQ a' w vo n f i xs (by omega) (by omega) z' hown hx hB)
  | d + 1, i, f, n, vo, xs, a, w, hd, hf, hi, hn, hz, hown, hx, hB => by
    rw [rounds_succ]
    by_cases hp : i < s.size
    · simp only [wordsN, if_pos hp] at hx
      refine wd_round hp hs hf hown (Nat.le_trans hb0 hB.size) (by omega) a hz _ (fun he a' w' g cap z' o' b' => ?_) (fun he a' z' => ?_)
      · rw [if_pos he] at hx
        refine wd_loop hs hb0 ws Q hQ d (i + 1) (i + 1) (n + 1) _ _ a' w' (by omega) (by omega) (by omega) (by omega) z' o' ?_ (hB.trans b')
        rw [List.append_assoc]; exact hx
      · rw [if_neg he] at hx
        exact wd_loop hs hb0 ws Q hQ d (i + 1) f n vo xs a' w (by omega) (by omega) (by omega) (by omega) z' hown hx hB
    · simp only [wordsN, if_neg hp] at hx
      exact wd_out hp a hz _ (fun a' z' => hQ a' w vo n f i xs (by omega) (by omega) z' hown hx hB)
theorem wd_first {w : World} {s : ByteArray} (B C : Code) (Q : Exit → Act → World → Prop)
    (hQ : ∀ a, SWd (.string s) (.slice (some ⟨w.heap.size, 0, none⟩) 0 0) (.int .i64 (0 : Nat)) (.int .i64 (0 : Nat)) a → B.wp Tryd.prog (Exit.then (fun a w => C.wp Tryd.prog Q a w) Q) a (w.alloc (.cells #[] 9))) :
    (Code.seq (wdP 0) (.seq (wdP 1) (.seq (wdP 2) (.seq (.seq (fstC (wdP 3)) B) C)))).wp Tryd.prog Q { tmps := #[.string s] ++ Array.replicate 31 undef, defers := [] } w := by
  simp only [wdP, fstC, wdBody, bodyOf, Tryd.f23, Option.getD, cutTail, cutN, Option.map, Array.replicate_succ, Array.replicate_zero, List.push_toArray, List.append_toArray, List.nil_append, List.cons_append]
  go_wp2_with fail
  rename_i K hK
  refine Code.wp_mono (fun e a w h => ?_) (hQ _ ⟨rfl, rfl, rfl, rfl, rfl, rfl⟩)
  cases e <;> first | exact hK _ _ h | exact h
set_option maxHeartbeats 1600000 in
theorem wd_last {w : World} {s : ByteArray} {base n f : Nat} {vo vi : Value} {xs : List Value} (hf : f ≤ s.size) (hs : s.size ≤ 100000) (hown : w.ownsRow base 9 1 vo n xs) (hbase : base ≤ w.heap.size) (hn : n ≤ 100000) (a : Act) (hz : SWd (.string s) vo (.int .i64 f) vi a) (Q : Exit → Act → World → Prop)
    (hQ : ∀ a' w' g cap, a'.defers = [] → a'.tmps[2]? = some (.slice (some ⟨g, 0, none⟩) (n + 1) cap) → w'.ownsRow base 9 1 (.slice (some ⟨g, 0, none⟩) (n + 1) cap) (n + 1) (xs ++ [.string (s.extract f s.size)]) → Below base w w' → Q .ret a' w') : (cutTail 4 wdBody).wp Tryd.prog Q a w := by
  obtain ⟨x, rfl⟩ := hz.lit
  clear hz
  have k3 : (0 : Int) ≤ (f : Int) := by omega
  have k4 : (f : Int) ≤ (s.size : Int) := by omega
  simp only [wdBody, bodyOf, Tryd.f23, Option.getD, cutTail, cutN, Option.map]
  go_wp2_with (at_builtin; refine st_app1 (s.extract f s.size) hown hbase (by omega) (by rfl) _ _ (by rfl) (by rfl) (by rfl) ?_; intro g cap w1 hw2 hB1)
  exact hQ _ _ _ _ rfl rfl hw2 hB1
theorem words_walk (w : World) (s : ByteArray) (hs : s.size ≤ 100000) : Calls Tryd.prog 23 #[.string s] w fun e w' => ∃ g cap, e = .returned (.slice (some ⟨g, 0, none⟩) (wordsF s).length cap) ∧
    w'.ownsRow w.heap.size 9 1 (.slice (some ⟨g, 0, none⟩) (wordsF s).length cap) (wordsF s).length (strs (wordsF s)) ∧ Below w.heap.size w w' := by
  refine calls_of_wp Tryd.func23 wd_body ?_
  have hnt : (Tryd.f23).ntmps - (#[.string s] : Array Value).size = 31 := by kernel_rfl
  rw [hnt]
  have hB0 : Below w.heap.size w (w.alloc (.cells #[] 9)) := Below.alloc (Below.refl _ _) (Nat.le_refl _) _
  refine wd_first _ _ _ (fun a z => ?_)
  refine wp_block (wp_loop_rounds (s.size + 1) ?_)
  refine wd_loop (w0 := w) (base := w.heap.size) hs (Nat.le_refl _) (wordsF s) _ (fun a2 w2 vo n f i xs hf hn z2 o2 hx b2 => ?_) s.size 0 0 0 _ [] a _ (by omega) (Nat.le_refl _) (Nat.zero_le _) (Nat.le_refl _) z (own_nostr w) rfl hB0
  show (cutTail 4 wdBody).wp _ _ a2 w2
  refine wd_last hf hs o2 b2.size (by omega) a2 z2 _ (fun a3 w3 g cap d0 d2 o3 b3 => ?_)
  rw [hx] at o3
  have hl : n + 1 = (wordsF s).length := by
    have := o3.1
    rw [show (strs (wordsF s)).length = (wordsF s).length from List.length_map _] at this
    omega
  rw [hl] at o3 d2
  exact ⟨d0, _, one_res (k := 2) (by kernel_rfl) d2, g, cap, rfl, o3, b2.trans b3⟩
end Sc
end Go.Proofs.YtogkcphobhhbdaaDoor
