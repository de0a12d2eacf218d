/- FnBadNumber's row and card. -/
import Derived.Test.YtogkcphobhhbdaaDoorBk5
import Derived.Test.YtogkcphobhhbdaaDoorCards
import Derived.Test.YtogkcphobhhbdaaDoorTie
set_option linter.unusedVariables false
set_option linter.unusedSimpArgs false
namespace Go.Proofs.YtogkcphobhhbdaaDoor
open Go Go.RowKit Go.ChangeShapes Go.WideShapes Go.ChangeAt Go.ChangeMaps Go.WideElems
set_option maxRecDepth 100000

theorem ownKnobs : ownKnob Tryd.prog.godebug = none := by kernel_rfl
theorem outB : laidOutB Tryd.prog = true := by kernel_rfl
theorem badnumber_vars : varsRowed Tryd.prog Rows.fnBadNumberSpec.vars = true := by kernel_rfl
/-- A world in which the variables lie as they are laid. -/
theorem badnumber_lifted (os : Os) (started : os.Started) (H : Type) (enc : TypeId × Value → H) :
    ReturnsInHanded {} Tryd.checked os 14 .any (fun w args => (Rows.fnBadNumberSpec.pre enc Tryd.prog Tryd.f14 [] false w args ∧ laidMetH Tryd.prog Rows.fnBadNumberRow.laid w) ∧ sizedMet enc Tryd.prog Tryd.f14 (OpenSpec.ofChange Rows.fnBadNumberSpec) false w args)
      (Rows.fnBadNumberSpec.post enc Tryd.prog Tryd.f14 false true false false) := by
  refine returnsInHanded_of_change_and (C := Tryd.checked) (X := fun w _ => laidMetH Tryd.prog Rows.fnBadNumberRow.laid w) (fun _ _ _ hh h => h.of_heap hh) ownKnobs started (by kernel_rfl) Tryd.func14
    (ChangeSpec.witness_shaped (enc := enc) (C := Tryd.checked) (os := os) (X := fun w _ => laidMetH Tryd.prog Rows.fnBadNumberRow.laid w) false (World.laidAll Tryd.prog os Rows.fnBadNumberRow.laid) #[.int .u32 0, .int .u8 0] 8 (World.laidAll_os _ _ _)
      (World.shaped_of_ZipB (by kernel_rfl) (by kernel_rfl)) (by kernel_rfl) (by kernel_rfl) (by kernel_rfl)
      (by rw [MakeChecks.laidMetH_plain _ _ _ (by kernel_rfl)]; exact laidMet_laidAll _ (by kernel_rfl) (by kernel_rfl))) ?_
  intro W base args ds gs before hval0 hW _ _ hL _
  have hval : ∀ (j : Nat) t v, Tryd.f14.params[j]? = some t → args[j]? = some v → Value.okWide Tryd.prog W .any base t v := hval0
  have hW' := hW
  obtain ⟨p, q, hA0, hV, rfl, _, _⟩ := hW
  have hA : DataW.TrodAll enc Tryd.prog W 0 (fun _ => true) true Tryd.f14.params.toList args.toList ds p := hA0
  rw [Tryd.params14] at hA hval
  obtain ⟨v0, v1, d0, d1, p0, p1, rfl, rfl, rfl, h0, h1⟩ := trodAll_two hA
  obtain ⟨m0, rfl, rfl, rfl, hm0⟩ := open_int Tryd.underlying44 (hval 0 44 v0 rfl rfl) h0
  have hb0 : 0 ≤ m0 ∧ m0 ≤ 4294967295 := by simpa [Lit.wf, IntKind.min, IntKind.max, IntKind.signed, IntKind.bits] using hm0
  obtain ⟨m1, rfl, rfl, rfl, hm1⟩ := open_int Tryd.underlying5 (hval 1 5 v1 rfl rfl) h1
  have hb1 : 0 ≤ m1 ∧ m1 ≤ 255 := by simpa [Lit.wf, IntKind.min, IntKind.max, IntKind.signed, IntKind.bits] using hm1
  rw [MakeChecks.laidMetH_plain _ _ _ (by kernel_rfl)] at hL
  obtain ⟨ea, hG⟩ := Sc.glob_of hL
  obtain ⟨_, _, _, _, g1, _, _, _, _, _, g2, _, rfl, _⟩ := trodVars_two hV
  refine (Sc.fnBadNumber_walk m0 m1 hG hb0 hb1).mono fun e W' ⟨he, hb⟩ => ?_
  subst he
  exact ⟨_, rfl, _, _, _, [], [], q, hW', trodAll_mk1 (shut_bool Tryd.underlying4 _), trodAll_mk2 (shut_int Tryd.underlying44 hm0) (shut_int Tryd.underlying5 hm1), Below.trodVars outB hb badnumber_vars hV, hb.frame _, fun h => by cases h⟩
theorem badnumber_holds : Rows.FnBadNumberSaid :=
  OpenClaim.holds_of_wide 14 Tryd.f14 rfl rfl rfl rfl rfl rfl rfl ⟨rfl, rfl, rfl, rfl, rfl⟩ rfl rfl rfl rfl rfl (by kernel_rfl) Tryd.func14 (by kernel_rfl)
    (of_decide_eq_true (by kernel_rfl)) (by unfold Func.isWrapper; first | (rw [if_pos (by decide +kernel)]; kernel_rfl) | (rw [if_neg (by decide +kernel)]; exact ⟨rfl, rfl⟩))
    (fun os started H enc _ => badnumber_lifted os started H enc)
theorem badnumber_card : Rows.FnBadNumberCardSaid :=
  Claim7.holds_tied_plain_at .later [] [.data, .data, .data, .data, .sentinel, .sentinel, .data, .data, .data, .pinned, .pinned, .pinned] true (true, "ae2fc34026476cd7c4e600893da3010dcf8f35e1f97b8c75eb9a5015bf6d3a64") true
    badnumber_holds (fun _ h => by cases h) (by kernel_rfl) (fun _ h => by cases h) fnBadNumber_row_tie rfl ⟨rfl, rfl⟩ (by kernel_rfl) rfl
    (fun f fn hf hfn => by
      obtain rfl : f = 14 := Option.some.inj ((show Tryd.prog.funcNamed "loop.example/pub-g03120/laws.FnBadNumber" = some 14 by kernel_rfl).symm.trans hf) |>.symm
      obtain rfl : fn = Tryd.f14 := (Option.some.inj (Tryd.func14.symm.trans hfn)).symm
      exact ⟨by kernel_rfl, fun j t ht => by
        rw [Tryd.params14] at ht
        have hm : t ∈ [44, 5] := by simpa using Array.mem_of_getElem? ht
        have hall : ([44, 5].all fun u => !Tryd.prog.wantsStandIn u) = true := by kernel_rfl
        exact (show Tryd.prog.wantsStandIn t = false by simpa using List.all_eq_true.1 hall t hm)⟩)
    (by kernel_rfl)
end Go.Proofs.YtogkcphobhhbdaaDoor
