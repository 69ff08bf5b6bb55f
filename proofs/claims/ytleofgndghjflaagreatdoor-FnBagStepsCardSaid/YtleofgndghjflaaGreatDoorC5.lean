/- PROVED: for every list of operations and every list of members, laws.FnBagSteps returns true and leaves its arguments as they were. Conditions: those of the given row and card (the listed variables hold what the program's text lays). -/
import Derived.Test.YtleofgndghjflaaGreatDoorY12
import Derived.Test.YtleofgndghjflaaGreatDoorY8
import Derived.Test.YtleofgndghjflaaGreatDoorCards
import Derived.Test.YtleofgndghjflaaGreatDoorTie
import Derived.Lib.SmallJoins
set_option linter.unusedVariables false
set_option linter.unusedSimpArgs false
namespace Go.Proofs.YtleofgndghjflaaGreatDoor
open Go Go.RowKit Go.ChangeShapes Go.WideShapes Go.ChangeAt Go.Joins
open Go.ChangeMaps (open_string shut_string)

namespace BagSteps
theorem laidOut : laidOutB Tryz.prog = true := by kernel_rfl
theorem reads (os : Os) {H : Type} (enc : TypeId × Value → H) :
    (OpenSpec.ofChange Rows.fnBagStepsSpec).preRow enc Tryz.prog Tryz.f7 Rows.fnBagStepsRow.domain false Rows.fnBagStepsRow.laid ((laidWorld os).forCall (fun _ _ => 0) ⟨#[], #[.slice none 0 0, .slice none 0 0], []⟩).memory #[.slice none 0 0, .slice none 0 0] := by
  have hw : (DataW.whole enc Tryz.prog ((laidWorld os).forCall (fun _ _ => 0) ⟨#[], #[.slice none 0 0, .slice none 0 0], []⟩).memory Tryz.f7.params.toList Rows.fnBagStepsSpec.vars false #[Value.slice none 0 0, Value.slice none 0 0].toList 8).map (fun x => (x.1, x.2.1)) =
      some ([.nil, .nil], []) := by kernel_rfl
  obtain ⟨⟨x1, x2, x3⟩, hx, hx1⟩ := Option.map_eq_some_iff.1 hw
  simp only [Prod.mk.injEq] at hx1
  obtain ⟨rfl, rfl⟩ := hx1
  exact OpenSpec.preRow_of_cond 8 hx (by kernel_rfl) (fun k hk => by cases hk) (by kernel_rfl) (laid_met os _)

set_option maxRecDepth 100000 in
set_option maxHeartbeats 2000000 in
theorem lifted (os : Os) (started : os.Started) (H : Type) (enc : TypeId × Value → H) (F : Stop.Interp) :
    ReturnsInHanded {} Tryz.checked os 7 .any ((OpenSpec.ofChange Rows.fnBagStepsSpec).preRow enc Tryz.prog Tryz.f7 Rows.fnBagStepsRow.domain false Rows.fnBagStepsRow.laid) (((OpenSpec.ofChange Rows.fnBagStepsSpec).at F).post enc Tryz.prog Tryz.f7 false true false false) := by
  refine returnsInHanded_of_row (C := Tryz.checked) (s := OpenSpec.ofChange Rows.fnBagStepsSpec) Tryz.own started (by kernel_rfl) Tryz.func7
    (witness_row_atRef (enc := enc) (C := Tryz.checked) false (laidWorld os) #[.slice none 0 0, .slice none 0 0] rfl (by kernel_rfl) (by kernel_rfl) (by kernel_rfl) (reads os enc)) ?_
  intro W base args ds gs before hval0 hW _ _ _ hL _ _
  have hval : ∀ (j : Nat) t v, Tryz.f7.params[j]? = some t → args[j]? = some v → Value.okWide Tryz.prog W .any base t v := hval0
  have hW' := hW
  obtain ⟨p, q, hA0, hV0, rfl, _, _⟩ := hW
  have hA : DataW.TrodAll enc Tryz.prog W 0 (fun _ => true) true Tryz.f7.params.toList args.toList ds p := hA0
  rw [Tryz.params7] at hA hval
  obtain ⟨v0, v1, d0, d1, p0, p1, rfl, rfl, rfl, h0, h1⟩ := trodAll_two hA
  obtain ⟨rfl, rfl⟩ := trodVars_none hV0
  simp only [List.append_nil] at hW'
  have hlt : ∀ x ∈ p0 ++ p1, x.block < W.heap.size := fun x hx => by simpa using hW'.lt x hx
  have h0k := h0
  have h1k := h1
  obtain ⟨ops, hops, h256⟩ := open_ops_arg (hval 0 57 v0 rfl rfl) h0
  obtain ⟨rs, hrs⟩ := open_members_arg (hval 1 55 v1 rfl rfl) h1
  clear hA0 hV0 hval0
  refine (fnBagSteps_any v0 v1 ops rs h256 W (laid_of hL) hops hrs).mono ?_
  rintro e W' ⟨rfl, bel⟩
  refine ⟨_, rfl, _, _, _, [], p0 ++ p1, [], hW', ?_, ?_, ?_, bel.frame _, fun h => by cases h⟩
  · exact trodAll_mk1 (shut_bool Tryz.underlying4 _)
  · exact trodAll_mk2 (Below.trod laidOut (by kernel_rfl) (of_decide_eq_true (by kernel_rfl)) h0k bel (fun x hx => hlt x (by simp [hx]))) (Below.trod laidOut (by kernel_rfl) (of_decide_eq_true (by kernel_rfl)) h1k bel (fun x hx => hlt x (by simp [hx])))
  · rfl

theorem said : Rows.FnBagStepsSaid :=
  OpenClaim.holds_of_cond 7 Tryz.f7 rfl rfl rfl rfl rfl rfl rfl ⟨rfl, rfl, rfl, rfl, rfl⟩ rfl rfl rfl rfl rfl (by kernel_rfl) Tryz.func7 (by kernel_rfl)
    (of_decide_eq_true (by kernel_rfl)) (by unfold Func.isWrapper; first | (rw [if_pos (by decide +kernel)]; kernel_rfl) | (rw [if_neg (by decide +kernel)]; exact ⟨rfl, rfl⟩))
    (fun os started H enc _ F => by rw [OpenClaim.pre_eq_preRow]; exact lifted os started H enc F)

theorem plain (f : FuncId) (fn : Func) (hf : Tryz.pinned.checked.prog.funcNamed "pub-sextary/laws.FnBagSteps" = some f) (hfn : Tryz.pinned.checked.prog.funcs[f]? = some fn) :
    false = Tryz.pinned.checked.prog.looks [] ∧ ∀ (j : Nat) t, fn.params[j]? = some t → Tryz.pinned.checked.prog.wantsStandIn t = false := by
  obtain rfl : f = 7 := Option.some.inj ((show Tryz.prog.funcNamed "pub-sextary/laws.FnBagSteps" = some 7 by kernel_rfl).symm.trans hf) |>.symm
  obtain rfl : fn = Tryz.f7 := (Option.some.inj (Tryz.func7.symm.trans hfn)).symm
  refine ⟨by kernel_rfl, fun j t ht => ?_⟩
  rw [Tryz.params7] at ht
  have hm : t = 57 ∨ t = 55 := by simpa using Array.mem_of_getElem? ht
  rcases hm with rfl | rfl
  · exact (show Tryz.prog.wantsStandIn 57 = false by kernel_rfl)
  · exact (show Tryz.prog.wantsStandIn 55 = false by kernel_rfl)

theorem card : Rows.FnBagStepsCardSaid :=
  Claim7.holds_tied_plain_at .later [] _ _ _ _ said (fun _ h => by cases h) (by kernel_rfl) (fun _ h => by cases h) fnBagSteps_row_tie rfl ⟨rfl, rfl⟩ (by kernel_rfl) rfl plain (by kernel_rfl)
end BagSteps
/-- The card. -/
theorem fnBagSteps_card : Rows.FnBagStepsCardSaid := BagSteps.card
end Go.Proofs.YtleofgndghjflaaGreatDoor
